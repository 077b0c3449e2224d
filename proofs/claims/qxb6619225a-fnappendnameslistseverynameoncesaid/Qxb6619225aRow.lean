/-
  Rows of the call's own whose elements are of more than one cell; frames by sets of blocks. Nothing of the program is in this text but its namespace.
-/
import Derived.Test.Qxb6619225aMem
import Derived.Great.BuildSlice
import Derived.Deep.MidRow
namespace Go.Proofs.Qxb6619225a
set_option linter.unusedVariables false
open Go Go.RowKit Mem

/-- The blocks that were there are as they were, but for those in S. -/
structure Fr (S : Nat → Prop) (w w' : World) : Prop where
  os : w'.os = w.os
  tape : w'.tape = w.tape
  output : w'.output = w.output
  size : w.heap.size ≤ w'.heap.size
  same : ∀ k, k < w.heap.size → ¬ S k → w'.heap[k]? = w.heap[k]?

theorem Fr.refl (S : Nat → Prop) (w : World) : Fr S w w := ⟨rfl, rfl, rfl, Nat.le_refl _, fun _ _ _ => rfl⟩
theorem Fr.trans {S S' : Nat → Prop} {w w' w'' : World} (h : Fr S w w') (k : Fr S' w' w'') (hS : ∀ x, x < w.heap.size → S' x → S x) : Fr S w w'' :=
  ⟨k.os.trans h.os, k.tape.trans h.tape, k.output.trans h.output, Nat.le_trans h.size k.size, fun x hx hn => (k.same x (Nat.lt_of_lt_of_le hx h.size) (fun e => hn (hS x hx e))).trans (h.same x hx hn)⟩
theorem Fr.ofBelow {S : Nat → Prop} {w w' : World} (h : Below w.heap.size w w') : Fr S w w' := ⟨h.os, h.tape, h.output, h.size, fun k hk _ => h.block k hk⟩
theorem Fr.below {S : Nat → Prop} {w w' : World} {B : Nat} (h : Fr S w w') (hB : B ≤ w.heap.size) (hS : ∀ k, k < B → ¬ S k) : Below B w w' :=
  ⟨h.os, h.tape, h.output, h.size, fun k hk => h.same k (Nat.lt_of_lt_of_le hk hB) (hS k hk)⟩
theorem Fr.grown {S : Nat → Prop} {w w' : World} {row : Option Nat} (hg : w.grownBy w' row) (hr : ∀ k, row = some k → S k) : Fr S w w' :=
  ⟨hg.os, hg.tape, hg.output, hg.size, fun k hk hn => hg.block k hk (fun e => hn (hr k e.symm))⟩
theorem Fr.setCell {S : Nat → Prop} {w : World} {b o : Nat} (hb : S b) (u : Value) : Fr S w (w.setCell ⟨b, o, none⟩ u) :=
  ⟨rfl, rfl, rfl, by simp [World.setCell], fun k _ hn => Below.heap_setCell _ _ _ _ (fun e => hn (by simp at e; rw [e]; exact hb))⟩
theorem Fr.drewN {S : Nat → Prop} {w w' : World} (h : Fr S w w') (n : Nat) : Fr S w (w'.drewN n) := ⟨h.os, h.tape, h.output, h.size, h.same⟩
theorem Fr.mono {S S' : Nat → Prop} {w w' : World} (h : Fr S w w') (hS : ∀ x, x < w.heap.size → S x → S' x) : Fr S' w w' :=
  ⟨h.os, h.tape, h.output, h.size, fun k hk hn => h.same k hk (fun e => hn (hS k hk e))⟩
theorem Fr.arr {S : Nat → Prop} {w w' : World} {g : Nat} {e : TypeId} {vs : List Value} (h : Fr S w w') (ha : Arr w g e vs) (hg : ¬ S g) : Arr w' g e vs := by
  have hl := ha.lt
  unfold Arr at ha ⊢
  rw [h.same g hl hg]
  exact ha
theorem Fr.ofStore {w w' : World} {g : Nat} (hb : ∀ B, B ≤ g → Below B w w') (hs : ∀ k, k ≠ g → w'.heap[k]? = w.heap[k]?) : Fr (fun x => x = g) w w' :=
  ⟨(hb 0 (Nat.zero_le _)).os, (hb 0 (Nat.zero_le _)).tape, (hb 0 (Nat.zero_le _)).output, (hb 0 (Nat.zero_le _)).size, fun k _ hk => hs k hk⟩

theorem Arr.tag {w : World} {g : Nat} {e e' : TypeId} {vs vs' : List Value} (h : Arr w g e vs) (h' : Arr w g e' vs') : e = e' := by
  unfold Arr at h h'
  rw [h] at h'
  simp at h'
  exact h'.2

/-- A slice that the call made, whose elements are of s cells: nil, or a row from block B on. n: its length; xs: its cells. -/
def OwnW (w : World) (B : Nat) (e : TypeId) (s : Nat) (v : Value) (n : Nat) (xs : List Value) : Prop :=
  xs.length = n * s ∧ ((v = .slice none 0 0 ∧ n = 0) ∨
  ∃ g cap vs, v = .slice (some ⟨g, 0, none⟩) n cap ∧ B ≤ g ∧ Arr w g e vs ∧ n ≤ cap ∧ cap * s ≤ vs.length ∧ cap ≤ maxLen ∧ ∀ i, i < xs.length → vs[i]? = xs[i]?)

theorem OwnW.shape {w : World} {B : Nat} {e : TypeId} {s : Nat} {v : Value} {n : Nat} {xs : List Value} (h : OwnW w B e s v n xs) : ∃ a c, v = .slice a n c := by
  rcases h.2 with ⟨rfl, rfl⟩ | ⟨g, cap, vs, rfl, _⟩
  · exact ⟨none, 0, rfl⟩
  · exact ⟨_, _, rfl⟩
theorem OwnW.some {w : World} {B : Nat} {e : TypeId} {s : Nat} {v : Value} {n : Nat} {xs : List Value} (h : OwnW w B e s v n xs) (hn : 0 < n) : ∃ g c, v = .slice (some ⟨g, 0, none⟩) n c ∧ B ≤ g ∧ ∀ i, i < xs.length → w.cell? ⟨g, i, none⟩ = xs[i]? := by
  rcases h.2 with ⟨rfl, rfl⟩ | ⟨g, cap, vs, rfl, hB, ha, _, _, _, h5⟩
  · omega
  · exact ⟨_, _, rfl, hB, fun i hi => by rw [ha.cell, h5 i hi]⟩
/-- The row's own block is of the element's type. -/
theorem OwnW.arr {w : World} {B : Nat} {e : TypeId} {s : Nat} {v : Value} {n : Nat} {xs : List Value} (h : OwnW w B e s v n xs) {k : Nat} (hk : v.ownBlock = Option.some k) : B ≤ k ∧ ∃ vs, Arr w k e vs := by
  rcases h.2 with ⟨rfl, rfl⟩ | ⟨g, cap, vs, rfl, hB, ha, _⟩
  · simp [Value.ownBlock] at hk
  · simp [Value.ownBlock] at hk
    subst hk
    exact ⟨hB, vs, ha⟩
theorem OwnW.fr {S : Nat → Prop} {w w' : World} {B : Nat} {e : TypeId} {s : Nat} {v : Value} {n : Nat} {xs : List Value} (h : OwnW w B e s v n xs) (hf : Fr S w w') (hS : ∀ k, v.ownBlock = Option.some k → ¬ S k) : OwnW w' B e s v n xs := by
  refine ⟨h.1, ?_⟩
  rcases h.2 with h' | ⟨g, cap, vs, rfl, hB, ha, r⟩
  · exact .inl h'
  · exact .inr ⟨g, cap, vs, rfl, hB, hf.arr ha (hS g rfl), r⟩
theorem OwnW.mono {w : World} {B B' : Nat} {e : TypeId} {s : Nat} {v : Value} {n : Nat} {xs : List Value} (h : OwnW w B e s v n xs) (hB : B' ≤ B) : OwnW w B' e s v n xs := by
  refine ⟨h.1, ?_⟩
  rcases h.2 with h' | ⟨g, cap, vs, rfl, hB', r⟩
  · exact .inl h'
  · exact .inr ⟨g, cap, vs, rfl, Nat.le_trans hB hB', r⟩
theorem OwnW.nil (w : World) (B : Nat) (e : TypeId) (s : Nat) : OwnW w B e s (.slice none 0 0) 0 [] := ⟨by simp, .inl ⟨rfl, rfl⟩⟩
theorem OwnW.ofArr {w : World} {B g : Nat} {e : TypeId} {xs : List Value} (h : Arr w g e xs) (hB : B ≤ g) (hm : xs.length ≤ maxLen) : OwnW w B e 1 (.slice (Option.some ⟨g, 0, none⟩) xs.length xs.length) xs.length xs :=
  ⟨by simp, .inr ⟨g, _, xs, rfl, hB, h, Nat.le_refl _, by simp, hm, fun _ _ => rfl⟩⟩

section
variable {P : Program}

theorem run_append_OwnW (w : World) (B : Nat) (t tx ty e : TypeId) (z : Value) (s bytes : Nat) (ht : P.underlying t = some (.slice e)) (hinfo : (P.info? e).map (fun i => (i.zero, i.size, i.bytes)) = some (some z, s, bytes)) (hz1 : z.cells.size = s)
    (v : Value) (k : Nat) (xs : List Value) (hv : OwnW w B e s v k xs) (x : Value) (n : Nat) (news : List Value) (hs : Src P s tx x n news w) (hB : B ≤ w.heap.size) (hn0 : 0 < n)
    (h63 : k + n ≤ maxLen) (hbytes : (k + n) * bytes ≤ 140737488355328) :
    ∃ v' w', (Builtin.append_ #[t, tx] ty #[v, x]).run P w = .ok v' w' ∧ OwnW w' B e s v' (k + n) (xs ++ news) ∧ w.grownBy w' v.ownBlock ∧ (v'.ownBlock = v.ownBlock ∨ ∀ k, v'.ownBlock = some k → w.heap.size ≤ k) := by
  obtain ⟨i, hi, hz, hsz, hby⟩ := info_parts hinfo
  subst hsz
  have hxl := hv.1
  have hnl : news.length = n * i.size := hs.newsLen
  have hlen : (xs ++ news).length = (k + n) * i.size := by rw [List.length_append, hxl, hnl, Nat.add_mul]
  have hsmall : k + n ≤ 9223372036854775807 := by simp only [maxLen] at h63; omega
  have grown : ∀ (base : Option Addr) (cap : Nat), cap < k + n → (Builtin.firstCells i.size k (.slice base k cap)).run P w.drew = .ok xs.toArray w.drew → ∀ row : Option Nat,
      ∃ v' w', (Builtin.append_ #[t, tx] ty #[.slice base k cap, x]).run P w = .ok v' w' ∧ OwnW w' B e i.size v' (k + n) (xs ++ news) ∧ w.grownBy w' row ∧ ∀ k, v'.ownBlock = some k → w.heap.size ≤ k := by
    intro base cap hcap hold row
    have hr := run_append_grow_src (P := P) w t tx ty e i z ht hi hz base k cap xs hold x n news hs hcap (by omega) (growslice_fits hcap (by rw [hby]; exact hbytes))
    have hge := grownCap_ge w (k + n) cap e
    have hcm : grownCap w (k + n) cap e ≤ maxLen := grownCap_le_maxLen w (k + n) cap e h63
    refine ⟨_, _, hr, ⟨hlen, .inr ⟨w.heap.size, _, (xs ++ news) ++ (Builtin.zeroCells z.cells (grownCap w (k + n) cap e - (k + n))).toList, rfl, hB, ?_, hge, ?_, hcm, ?_⟩⟩, ⟨rfl, rfl, rfl, by simp, fun k hk _ => Below.heap_alloc w.drew _ k hk⟩, ?_⟩
    · have := Arr.new w.drew e ((xs ++ news) ++ (Builtin.zeroCells z.cells (grownCap w (k + n) cap e - (k + n))).toList)
      have ea : ((xs ++ news) ++ (Builtin.zeroCells z.cells (grownCap w (k + n) cap e - (k + n))).toList).toArray = (xs ++ news).toArray ++ Builtin.zeroCells z.cells (grownCap w (k + n) cap e - (k + n)) := by
        apply Array.ext'; simp
      rw [ea] at this
      exact this
    · rw [List.length_append, hlen]
      simp only [Array.length_toList, size_zeroCells, hz1]
      rw [← Nat.add_mul]
      exact Nat.mul_le_mul_right _ (by omega)
    · intro j hj
      rw [List.getElem?_append_left hj]
    · intro k hk
      simp [Value.ownBlock] at hk
      omega
  rcases hv.2 with ⟨rfl, rfl⟩ | ⟨g, cap, vs, rfl, hBg, ha, h1, h2, h3, h4⟩
  · obtain rfl : xs = [] := List.eq_nil_of_length_eq_zero (by simpa using hxl)
    obtain ⟨v', w', q1, q2, q3, q4⟩ := grown none 0 (by omega) (by simpa using run_firstCells_none (P := P) w.drew i.size 0 0 0) (Value.ownBlock (.slice none 0 0))
    exact ⟨v', w', q1, q2, q3, .inr q4⟩
  · by_cases hroom : k + n ≤ cap
    · have hfit : xs.length + news.length ≤ vs.length := by
        rw [hxl, hnl, ← Nat.add_mul]
        exact Nat.le_trans (Nat.mul_le_mul_right _ hroom) h2
      have hr := run_append_room_src (P := P) w t tx ty e i ht hi g 0 k cap x n news hs hroom
        (fun j hj => by rw [ha.cell, List.getElem?_eq_getElem (by rw [Nat.zero_add, ← hxl]; omega)]; rfl) (fun j hj => ha.frozen _)
      rw [Nat.zero_add, ← hxl] at hr
      obtain ⟨vs', k1, k2, k3, k4, k5⟩ := Arr.setCells news xs.length w vs ha hfit
      refine ⟨_, _, hr, ⟨hlen, .inr ⟨g, cap, vs', rfl, hBg, k1, hroom, by rw [k2]; exact h2, h3, ?_⟩⟩, grownBy_setCells _ _ _, .inl rfl⟩
      intro j hj
      by_cases hjx : j < xs.length
      · rw [k3 _ hjx, h4 j hjx, List.getElem?_append_left hjx]
      · obtain ⟨j', rfl⟩ : ∃ j', j = xs.length + j' := ⟨j - xs.length, by omega⟩
        rw [k4 j' (by simp at hj; omega), List.getElem?_append_right (by omega), Nat.add_sub_cancel_left]
    · have hold : (Builtin.firstCells i.size k (.slice (some ⟨g, 0, none⟩) k cap)).run P w.drew = .ok xs.toArray w.drew := by
        refine run_firstCells_some w.drew i.size k ⟨g, 0, none⟩ k cap xs hxl fun j u hu => ?_
        have hj : j < xs.length := (List.getElem?_eq_some_iff.1 hu).1
        have hadd : (⟨g, 0, none⟩ : Addr).add j = ⟨g, 0 + j, none⟩ := by unfold Addr.add; split <;> simp_all
        rw [hadd, World.cell?_drew, ha.cell, Nat.zero_add, h4 j hj, hu]
      obtain ⟨v', w', q1, q2, q3, q4⟩ := grown (some ⟨g, 0, none⟩) cap (by omega) hold (some g)
      exact ⟨v', w', q1, q2, q3, .inr q4⟩

/-- The same as a law for the walk. -/
theorem wpList_append_OwnW {w : World} {ops : Array Oper} {rest : List Oper} {o : Oper} {a : Act} {Q : Exit → Act → World → Prop} (hgd : o.guard = none) (s x : Operand) (t tx : TypeId)
    (ho : o.op = .call { callee := .builtin .append, args := #[s, x], argTypes := #[t, tx] })
    (B : Nat) (e : TypeId) (z : Value) (sz bytes : Nat) (ht : P.underlying t = some (.slice e)) (hinfo : (P.info? e).map (fun i => (i.zero, i.size, i.bytes)) = some (some z, sz, bytes)) (hz1 : z.cells.size = sz)
    (v : Value) (k : Nat) (xs : List Value) (hsv : a.eval s = v) (hv : OwnW w B e sz v k xs) (xv : Value) (news : List Value) (hxv : a.eval x = xv) (hs : Src P sz tx xv 1 news w) (hB : B ≤ w.heap.size)
    (h63 : k + 1 ≤ maxLen) (hbytes : (k + 1) * bytes ≤ 140737488355328)
    (h : ∀ g c' w', OwnW w' B e sz (.slice (some ⟨g, 0, none⟩) (k + 1) c') (k + 1) (xs ++ news) → w.grownBy w' v.ownBlock → (some g = v.ownBlock ∨ w.heap.size ≤ g) → wpList P ops Q rest (a.put o.dst (.slice (some ⟨g, 0, none⟩) (k + 1) c')) w') :
    wpList P ops Q (o :: rest) a w := by
  refine wpList_plain hgd fun K hK => ?_
  obtain ⟨v', w', hr, h2, h3, h4⟩ := run_append_OwnW (P := P) w B t tx o.type e z sz bytes ht hinfo hz1 v k xs hv xv 1 news hs hB (by omega) h63 hbytes
  obtain ⟨g, c', rfl, _⟩ := h2.some (by omega)
  unfold Oper.wp execOp
  simp only [ho, resolve, invoke, builtin, Sem.run_bind, Sem.run_pure, Result.andThen_ok, List.map_toArray, List.map_cons, List.map_nil, hsv, hxv, hr]
  refine hK _ _ (h g c' w' h2 h3 ?_)
  rcases h4 with h4 | h4
  · exact .inl (by rw [← h4]; rfl)
  · exact .inr (h4 g rfl)

/-- A slice literal of one element. -/
theorem wpList_buildOne {w : World} {ops : Array Oper} {rest : List Oper} {o : Oper} {a : Act} {Q : Exit → Act → World → Prop} (hg : o.guard = none) (t e : TypeId) (x : Operand) (ho : o.op = .buildSlice t 1 #[(0, x)])
    (z : Value) (s bytes : Nat) (hu : P.underlying t = some (.slice e)) (hinfo : (P.info? e).map (fun i => (i.zero, i.size, i.bytes)) = some (some z, s, bytes)) (v : Value) (cells : Array Value) (hx : a.eval x = v)
    (hs0 : 0 < s) (hs1 : s ≤ 1000)
    (hf : Instr.fill (fun i => some (i * s, s)) ((Array.range (1 * s)).map (z.cells[· % z.cells.size]!)) [(0, v)] = some cells)
    (h : ∀ g w', w.heap.size ≤ g → g < w'.heap.size → Arr w' g e cells.toList → Below w.heap.size w w' → wpList P ops Q rest (a.put o.dst (.slice (some ⟨g, 0, none⟩) 1 1)) w') : wpList P ops Q (o :: rest) a w := by
  obtain ⟨i, hi, hz, hsz, hby⟩ := info_parts hinfo
  subst hsz
  refine wpList_buildSlice hg t e 1 _ ho cells i z hu hi hz (by omega) (by omega) (by simpa [hx] using hf) ?_
  exact h w.heap.size _ (Nat.le_refl _) (by simp) (by have := Arr.new w e cells.toList; simpa using this) ((Below.refl _ _).alloc (Nat.le_refl _) _)
end
end Go.Proofs.Qxb6619225a
