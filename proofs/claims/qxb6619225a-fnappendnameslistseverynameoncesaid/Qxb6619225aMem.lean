/-
  Small laws on rows of cells that a call makes, stated over worlds that are variables. Nothing of the program is in this text.
-/
import Derived.WalkKit
import Derived.WalkSpells
import Derived.WalkLawsBesides
import Derived.Deep.OwnRows
import Derived.Laws.CopyOwn
import Derived.Deep.AppendSrc
import Derived.Deep.QuietTactic
namespace Go.Proofs.Qxb6619225a.Mem
open Go Go.RowKit

/-- Block g is a row of cells of type e; none is frozen. -/
def Arr (w : World) (g : Nat) (e : TypeId) (vs : List Value) : Prop := w.heap[g]? = some (.cells vs.toArray e (0, 0))

theorem Arr.lt {w : World} {g : Nat} {e : TypeId} {vs : List Value} (h : Arr w g e vs) : g < w.heap.size := (Array.getElem?_eq_some_iff.1 h).1
theorem Arr.cell {w : World} {g : Nat} {e : TypeId} {vs : List Value} (h : Arr w g e vs) (k : Nat) : w.cell? ⟨g, k, none⟩ = vs[k]? := by
  unfold Arr at h; simp [World.cell?, h]
theorem Arr.frozen {w : World} {g : Nat} {e : TypeId} {vs : List Value} (h : Arr w g e vs) (k : Nat) : w.frozen? ⟨g, k, none⟩ = false := by
  unfold Arr at h; simp [World.frozen?, h]
theorem Arr.set {w : World} {g : Nat} {e : TypeId} {vs : List Value} (h : Arr w g e vs) (k : Nat) (v : Value) : Arr (w.setCell ⟨g, k, none⟩ v) g e (vs.set k v) := by
  have hr := setCell_eq_setRow w g k vs.toArray e (0, 0) v h
  unfold Arr
  rw [hr, setRow_heap w g _ _ e (0, 0) h]
  simp
theorem Arr.other {w : World} {g : Nat} {e : TypeId} {vs : List Value} (h : Arr w g e vs) {b k : Nat} (hb : g ≠ b) (v : Value) : Arr (w.setCell ⟨b, k, none⟩ v) g e vs := by
  unfold Arr at h ⊢
  rw [Below.heap_setCell _ _ _ _ (by simpa using hb)]
  exact h
theorem Arr.alloc {w : World} {g : Nat} {e : TypeId} {vs : List Value} (h : Arr w g e vs) (o : Obj) : Arr (w.alloc o) g e vs := by
  have hl := h.lt
  unfold Arr at h ⊢
  rw [Below.heap_alloc _ _ _ hl]
  exact h
theorem Arr.below {w w' : World} {B g : Nat} {e : TypeId} {vs : List Value} (h : Arr w g e vs) (hb : Below B w w') (hg : g < B) : Arr w' g e vs := by
  unfold Arr at h ⊢
  rw [hb.block g hg]
  exact h
theorem Arr.drew {w : World} {g : Nat} {e : TypeId} {vs : List Value} (h : Arr w g e vs) : Arr w.drew g e vs := h
theorem Arr.drewN {w : World} {g : Nat} {e : TypeId} {vs : List Value} (h : Arr w g e vs) (n : Nat) : Arr (w.drewN n) g e vs := h
theorem Arr.new (w : World) (e : TypeId) (vs : List Value) : Arr (w.alloc (.cells vs.toArray e)) w.heap.size e vs := heap_alloc_new w _

theorem madeCells_one (z : Value) (n : Nat) : madeCells #[z] n = (List.replicate n z).toArray := by
  apply Array.ext
  · simp [size_madeCells]
  · intro i h1 h2
    simp [madeCells]
    simp [Nat.mod_one]

section
variable {P : Program}

/-- 'make([]T, n)', T of one cell: a new row; the world behind it is a variable. -/
theorem wpList_make_abs {w : World} {ops : Array Oper} {rest : List Oper} {o : Oper} {a : Act} {Q : Exit → Act → World → Prop}
    (hg : o.guard = none) (l c : Operand) (t : TypeId) (hop : o.op = Op.makeSlice t l c)
    (e : TypeId) (z : Value) (bytes : Nat) (ht : P.underlying t = some (.slice e)) (hinfo : (P.info? e).map (fun i => (i.zero, i.size, i.bytes)) = some (some z, 1, bytes)) (hz1 : z.cells = #[z])
    (kl kc : IntKind) (n : Nat) (N M : Int) (hl : a.eval l = .int kl N) (hc : a.eval c = .int kc M) (hN : N = n) (hM : M = n) (hbytes : bytes * n ≤ 281474976710656) (h63 : n ≤ 9223372036854775807)
    (hK : ∀ g w', w.heap.size ≤ g → g < w'.heap.size → Arr w' g e (List.replicate n z) → Below w.heap.size w w' → wpList P ops Q rest (a.put o.dst (.slice (some ⟨g, 0, none⟩) n n)) w') :
    wpList P ops Q (o :: rest) a w := by
  subst hN; subst hM
  refine wpList_plain hg fun K hK' => ?_
  have hrun := run_make_row' (P := P) t e z bytes ht hinfo hz1 kl kc n hbytes h63 w
  have hk := hK w.heap.size (w.alloc (.cells (madeCells #[z] n) e)) (Nat.le_refl _) (by simp) (by rw [madeCells_one]; exact Arr.new _ _ _) ((Below.refl _ _).alloc (Nat.le_refl _) _)
  unfold Oper.wp
  simp [execOp, hop, hl, hc, hrun, Result.andThen]
  exact hK' _ _ hk

/-- 'make([]T, n)', T of 'size' cells: a new row of n * size cells. -/
theorem wpList_make_wide {w : World} {ops : Array Oper} {rest : List Oper} {o : Oper} {a : Act} {Q : Exit → Act → World → Prop}
    (hg : o.guard = none) (l c : Operand) (t : TypeId) (hop : o.op = Op.makeSlice t l c)
    (e : TypeId) (size bytes : Nat) (ht : P.underlying t = some (.slice e)) (hinfo : (P.info? e).map (fun i => (i.zero.isSome, i.size, i.bytes)) = some (true, size, bytes))
    (kl kc : IntKind) (n : Nat) (N M : Int) (hl : a.eval l = .int kl N) (hc : a.eval c = .int kc M) (hN : N = n) (hM : M = n) (hbytes : bytes * n ≤ 281474976710656) (h63 : n ≤ 9223372036854775807)
    (hK : ∀ g w', w.heap.size ≤ g → g < w'.heap.size → (∃ vs, Arr w' g e vs ∧ vs.length = n * size) → Below w.heap.size w w' → wpList P ops Q rest (a.put o.dst (.slice (some ⟨g, 0, none⟩) n n)) w') :
    wpList P ops Q (o :: rest) a w := by
  subst hN; subst hM
  refine wpList_plain hg fun K hK' => ?_
  obtain ⟨i, hi, hzz⟩ := Option.map_eq_some_iff.1 hinfo
  simp only [Prod.mk.injEq] at hzz
  obtain ⟨hz, rfl, rfl⟩ := hzz
  obtain ⟨z, hz⟩ := Option.isSome_iff_exists.1 hz
  have hb' : (i.bytes : Int) * (n : Int) ≤ 281474976710656 := by
    have h : ((i.bytes * n : Nat) : Int) ≤ 281474976710656 := by omega
    rwa [Int.natCast_mul] at h
  have hrun := run_make (P := P) w t e i z ht hi hz kl kc n n (by omega) (Int.le_refl _) hb' (by omega)
  simp only [Int.toNat_natCast] at hrun
  have hk := hK w.heap.size _ (Nat.le_refl _) (by simp) ⟨_, (by have := Arr.new w e (madeCells z.cells (n * i.size)).toList; simpa using this), by simp [size_madeCells]⟩ ((Below.refl _ _).alloc (Nat.le_refl _) (.cells (madeCells z.cells (n * i.size)) e))
  unfold Oper.wp
  simp [execOp, hop, hl, hc, hrun, Result.andThen]
  exact hK' _ _ hk

/-- A parameter or a literal boxed: a new block that holds its cells. -/
theorem wpList_box_abs {w : World} {ops : Array Oper} {rest : List Oper} {o : Oper} {a : Act} {Q : Exit → Act → World → Prop} (hgd : o.guard = none) (t : TypeId) (x : Operand) (ho : o.op = .box t x)
    (v : Value) (hx : a.eval x = v)
    (hK : ∀ g w', w.heap.size ≤ g → g < w'.heap.size → Arr w' g t v.cells.toList → Below w.heap.size w w' → wpList P ops Q rest (a.put o.dst (.pointer (some ⟨g, 0, none⟩))) w') :
    wpList P ops Q (o :: rest) a w := by
  refine wpList_plain hgd fun K hK' => ?_
  have hk := hK w.heap.size (w.alloc (.cells v.cells t)) (Nat.le_refl _) (by simp) (by have := Arr.new w t v.cells.toList; simpa using this) ((Below.refl _ _).alloc (Nat.le_refl _) _)
  unfold Oper.wp
  simp [execOp, ho, hx, Instr.box, newVar, newRow, Result.andThen]
  exact hK' _ _ hk

/-- A new variable, zeroed. -/
theorem wpList_alloc_abs {w : World} {ops : Array Oper} {rest : List Oper} {o : Oper} {a : Act} {Q : Exit → Act → World → Prop} (hgd : o.guard = none) (t : TypeId) (ho : o.op = .alloc t)
    (z : Value) (hz : (P.info? t).map (fun i => i.zero) = some (some z))
    (hK : ∀ g w', w.heap.size ≤ g → g < w'.heap.size → Arr w' g t z.cells.toList → Below w.heap.size w w' → wpList P ops Q rest (a.put o.dst (.pointer (some ⟨g, 0, none⟩))) w') :
    wpList P ops Q (o :: rest) a w := by
  refine wpList_plain hgd fun K hK' => ?_
  have hk := hK w.heap.size (w.alloc (.cells z.cells t)) (Nat.le_refl _) (by simp) (by have := Arr.new w t z.cells.toList; simpa using this) ((Below.refl _ _).alloc (Nat.le_refl _) _)
  obtain ⟨i, hi, hzz⟩ := Option.map_eq_some_iff.1 hz
  unfold Oper.wp
  simp [execOp, ho, Instr.alloc, zeroValue, typeInfo, hi, hzz, newVar, newRow, Result.andThen]
  exact hK' _ _ hk

/-- A whole array or struct read out of its box. -/
theorem wpList_load_abs {w : World} {ops : Array Oper} {rest : List Oper} {o : Oper} {a : Act} {Q : Exit → Act → World → Prop} (hgd : o.guard = none) (ty : TypeId) (x : Operand) (ho : o.op = .load ty x)
    (g : Nat) (hx : a.eval x = .pointer (some ⟨g, 0, none⟩)) (t : TypeId) (cs : List Value) (hg : Arr w g t cs) (d : TypeDesc)
    (hu : P.underlying ty = some d) (hd : (match d with | .struct _ | .array _ _ => true | _ => false) = true) (hi : (P.info? ty).map (·.size) = some cs.length)
    (h : wpList P ops Q rest (a.put o.dst (.agg cs.toArray)) w) : wpList P ops Q (o :: rest) a w :=
  wpList_load_row hgd ty x ho g hx t cs.toArray (0, 0) d hg hu hd (by simpa using hi) h

theorem run_storeVar_abs (w : World) (g : Nat) (ty t : TypeId) (old cs : List Value) (hg : Arr w g t old) (hl : old.length = cs.length) (hi : (P.info? ty).map (·.size) = some cs.length) (h1 : ∀ v ∈ cs, v.oneCell' = true) :
    (storeVar ty ⟨g, 0, none⟩ (.agg cs.toArray)).run P w = .ok () (w.setRow g cs.toArray) := by
  have hst := run_storeCells_at P g 0 t cs 0 old.toArray w hg (by simp [hl]) h1
  obtain ⟨i, hq, hs⟩ := Option.map_eq_some_iff.1 hi
  have e : (old.toArray.toList.take (0 + 0) ++ cs ++ old.toArray.toList.drop (0 + 0 + cs.length)).toArray = cs.toArray := by
    simp [List.drop_eq_nil_of_le (show old.length ≤ cs.length by omega)]
  rw [e] at hst
  simp [storeVar, sizeOf, typeInfo, hq, hs, Value.cells, hst]

/-- A whole array or struct stored into its box. -/
theorem wpList_store_abs {w : World} {ops : Array Oper} {rest : List Oper} {o : Oper} {a : Act} {Q : Exit → Act → World → Prop} (hgd : o.guard = none) (ty : TypeId) (p x : Operand) (ho : o.op = .store ty p x)
    (g : Nat) (hp : a.eval p = .pointer (some ⟨g, 0, none⟩)) (t : TypeId) (old cs : List Value) (hx : a.eval x = .agg cs.toArray) (hg : Arr w g t old) (hl : old.length = cs.length)
    (hi : (P.info? ty).map (·.size) = some cs.length) (h1 : ∀ v ∈ cs, v.oneCell' = true)
    (hK : ∀ w', Arr w' g t cs → (∀ B, B ≤ g → Below B w w') → (∀ k, k ≠ g → w'.heap[k]? = w.heap[k]?) → wpList P ops Q rest (a.put o.dst undef) w') : wpList P ops Q (o :: rest) a w := by
  refine wpList_plain hgd fun K hK' => ?_
  have hr := run_storeVar_abs (P := P) w g ty t old cs hg hl hi h1
  have hk := hK (w.setRow g cs.toArray) (setRow_heap w g _ _ t _ hg) (fun B hB => below_setRow (Below.refl _ _) hB _) (fun k hk => setRow_other w g k _ hk)
  unfold Oper.wp
  simp [execOp, ho, hp, hx, Instr.storeAt, Instr.sureAddr, hr, Result.andThen]
  exact hK' _ _ hk

/-! Operations of a region that draws its order, over a class of worlds. -/
theorem wpQuiet_run {ops : Array Oper} {C : World → Prop} {Q : Act → Prop} {o : Oper} {rest : List Oper} {a : Act} (hgd : o.guard = none) (v : Value)
    (h : ∀ w, C w → (execOp a.eval o).run P w = .ok (.value v) w) (next : wpQuiet P ops C Q rest (a.put o.dst v)) : wpQuiet P ops C Q (o :: rest) a := by
  refine wpQuiet_step fun K hK => ?_
  simp only [Region.wanted, hgd, if_true]
  exact ⟨v, fun w hw => by unfold Oper.quietAt; rw [h w hw]; exact ⟨rfl, rfl⟩, hK _ next⟩

theorem wpQuiet_load {ops : Array Oper} {C : World → Prop} {Q : Act → Prop} {o : Oper} {rest : List Oper} {a : Act} (hgd : o.guard = none) (ty : TypeId) (x : Operand) (ho : o.op = .load ty x)
    (g : Nat) (hx : a.eval x = .pointer (some ⟨g, 0, none⟩)) (t : TypeId) (cs : List Value) (hg : ∀ w, C w → Arr w g t cs) (d : TypeDesc)
    (hu : P.underlying ty = some d) (hd : (match d with | .struct _ | .array _ _ => true | _ => false) = true) (hi : (P.info? ty).map (·.size) = some cs.length)
    (next : wpQuiet P ops C Q rest (a.put o.dst (.agg cs.toArray))) : wpQuiet P ops C Q (o :: rest) a := by
  refine wpQuiet_run hgd _ (fun w hw => ?_) next
  unfold execOp
  simp only [ho, hx, Instr.loadAt, Instr.sureAddr, Sem.run_bind, Sem.run_pure, Result.andThen_ok, run_loadVar_row w g t ty cs.toArray (0, 0) d (hg w hw) hu hd (by simpa using hi)]

theorem wpQuiet_call {ops : Array Oper} {C : World → Prop} {Q : Act → Prop} {o : Oper} {rest : List Oper} {a : Act} (hgd : o.guard = none) (f : FuncId) (args : Array Value) (v : Value)
    (h : ∀ w, C w → (execOp a.eval o).run P w = .ok (.enter f args) w) (hc : ∀ w, C w → Calls P f args w fun e w'' => e = .returned v ∧ C w'')
    (next : wpQuiet P ops C Q rest (a.put o.dst v)) : wpQuiet P ops C Q (o :: rest) a := by
  refine wpQuiet_step fun K hK => ?_
  simp only [Region.wanted, hgd, if_true]
  exact ⟨v, fun w hw => by unfold Oper.quietAt; rw [h w hw]; exact ⟨rfl, hc w hw⟩, hK _ next⟩

/-- 'copy(dst, src)' that fills a row of the call's own whole. -/
theorem wpList_copy_abs {w : World} {ops : Array Oper} {rest : List Oper} {o : Oper} {a : Act} {Q : Exit → Act → World → Prop} (hgd : o.guard = none) (d s : Operand) (dT sT : TypeId)
    (ho : o.op = .call { callee := .builtin .copy, args := #[d, s], argTypes := #[dT, sT] }) (e : TypeId) (hu : P.underlying dT = some (.slice e)) (hsz : (P.info? e).map (·.size) = some 1)
    (g n dc : Nat) (sp : Option Addr) (sc : Nat) (hd : a.eval d = .slice (some ⟨g, 0, none⟩) n dc) (hs : a.eval s = .slice sp n sc)
    (t : TypeId) (old : List Value) (hg : Arr w g t old) (cs : List Value) (hold : old.length = n) (hcs : cs.length = n)
    (hsrc : 0 < n → ∃ ad, sp = some ad ∧ ∀ j v, cs[j]? = some v → w.cell? (ad.add j) = some v) (h1 : ∀ v ∈ cs, v.oneCell' = true)
    (hK : ∀ w', Arr w' g t cs → (∀ B, B ≤ g → Below B w w') → wpList P ops Q rest (a.put o.dst (.int .i64 (n : Int))) w') :
    wpList P ops Q (o :: rest) a w := by
  by_cases h0 : n = 0
  · subst h0
    obtain rfl : cs = [] := List.eq_nil_of_length_eq_zero hcs
    obtain rfl : old = [] := List.eq_nil_of_length_eq_zero hold
    exact wpList_copy_nothing hgd d s dT sT ho e hu hsz _ _ 0 dc 0 sc hd hs rfl (hK w hg fun B _ => Below.refl _ _)
  · obtain ⟨ad, rfl, hc⟩ := hsrc (by omega)
    have hm : cs.length = Nat.min n n := by rw [hcs]; exact (Nat.min_self n).symm
    refine wpList_copy_own hgd d s dT sT ho e hu hsz g 0 n dc ad n sc hd hs old.toArray t hg cs hm hc (by simp; omega) h1 ?_
    have hk := hK (w.setRow g cs.toArray) (setRow_heap w g _ _ t _ hg) (fun B hB => below_setRow (Below.refl _ _) hB _)
    have he : (old.toArray.toList.take 0 ++ (cs ++ old.toArray.toList.drop (0 + cs.length))).toArray = cs.toArray := by
      simp [List.drop_eq_nil_of_le (show old.length ≤ cs.length by omega)]
    rw [he, hcs]
    exact hk

/-- A slice of one-cell elements that the call made: nil, or a stretch of a row from block B on. -/
def OwnV (w : World) (B : Nat) (e : TypeId) (v : Value) (xs : List Value) : Prop :=
  (v = .slice none 0 0 ∧ xs = []) ∨
  ∃ g off cap vs, v = .slice (some ⟨g, off, none⟩) xs.length cap ∧ B ≤ g ∧ Arr w g e vs ∧ xs.length ≤ cap ∧ off + cap ≤ vs.length ∧ cap ≤ maxLen ∧ ∀ i, i < xs.length → vs[off + i]? = xs[i]?

theorem OwnV.below {w w' : World} {B C : Nat} {e : TypeId} {v : Value} {xs : List Value} (h : OwnV w B e v xs) (hC : w.heap.size ≤ C) (hb : Below C w w') : OwnV w' B e v xs := by
  rcases h with h | ⟨g, off, cap, vs, ev, hg, ha, r⟩
  · exact .inl h
  · exact .inr ⟨g, off, cap, vs, ev, hg, ha.below hb (Nat.lt_of_lt_of_le ha.lt hC), r⟩

theorem OwnV.mono {w : World} {B B' : Nat} {e : TypeId} {v : Value} {xs : List Value} (h : OwnV w B e v xs) (hB : B' ≤ B) : OwnV w B' e v xs := by
  rcases h with h | ⟨g, off, cap, vs, ev, hg, r⟩
  · exact .inl h
  · exact .inr ⟨g, off, cap, vs, ev, Nat.le_trans hB hg, r⟩

theorem OwnV.shape {w : World} {B : Nat} {e : TypeId} {v : Value} {xs : List Value} (h : OwnV w B e v xs) : ∃ a c, v = .slice a xs.length c := by
  rcases h with ⟨rfl, rfl⟩ | ⟨g, off, cap, vs, rfl, _⟩
  · exact ⟨none, 0, rfl⟩
  · exact ⟨_, _, rfl⟩

/-- What w' is behind an append onto v: the blocks that were there are as they were, but for v's own row. -/
theorem OwnV.kept {w w' : World} {B : Nat} {e : TypeId} {v : Value} {xs : List Value} {row : Option Nat} (h : OwnV w B e v xs) (hg : w.grownBy w' row) (hne : v.ownBlock = none ∨ v.ownBlock ≠ row) : OwnV w' B e v xs := by
  rcases h with h | ⟨g, off, cap, vs, rfl, hB, ha, r⟩
  · exact .inl h
  · refine .inr ⟨g, off, cap, vs, rfl, hB, ?_, r⟩
    unfold Arr at ha ⊢
    rw [hg.block g (Array.getElem?_eq_some_iff.1 ha).1 (by simpa [Value.ownBlock] using hne)]
    exact ha

theorem Arr.grown {w w' : World} {g : Nat} {e : TypeId} {vs : List Value} {row : Option Nat} (h : Arr w g e vs) (hg : w.grownBy w' row) (hne : some g ≠ row) : Arr w' g e vs := by
  have hl := h.lt
  unfold Arr at h ⊢
  rw [hg.block g hl hne]
  exact h

theorem OwnV.ge {w : World} {B : Nat} {e : TypeId} {v : Value} {xs : List Value} (h : OwnV w B e v xs) : ∀ k, v.ownBlock = some k → B ≤ k ∧ k < w.heap.size := by
  intro k hk
  rcases h with ⟨rfl, _⟩ | ⟨g, off, cap, vs, rfl, hB, ha, r⟩
  · simp [Value.ownBlock] at hk
  · simp [Value.ownBlock] at hk
    subst hk
    exact ⟨hB, ha.lt⟩

theorem OwnV.other {w : World} {B : Nat} {e : TypeId} {v : Value} {xs : List Value} (h : OwnV w B e v xs) {b k : Nat} (hne : v.ownBlock ≠ some b) (u : Value) : OwnV (w.setCell ⟨b, k, none⟩ u) B e v xs := by
  rcases h with h | ⟨g, off, cap, vs, rfl, hB, ha, r⟩
  · exact .inl h
  · exact .inr ⟨g, off, cap, vs, rfl, hB, ha.other (by intro e; exact hne (by simp [Value.ownBlock, e])) u, r⟩

/-- Cells laid one by one into a row. -/
theorem Arr.setCells {g : Nat} {e : TypeId} : ∀ (news : List Value) (o : Nat) (w : World) (vs : List Value), Arr w g e vs → o + news.length ≤ vs.length →
    ∃ vs', Arr (w.setCells g o news) g e vs' ∧ vs'.length = vs.length ∧ (∀ i, i < o → vs'[i]? = vs[i]?) ∧ (∀ i, i < news.length → vs'[o + i]? = news[i]?) ∧ ∀ i, o + news.length ≤ i → vs'[i]? = vs[i]?
  | [], o, w, vs, h, _ => ⟨vs, h, rfl, fun _ _ => rfl, fun i hi => absurd hi (by simp), fun _ _ => rfl⟩
  | v :: r, o, w, vs, h, hl => by
    simp only [List.length_cons] at hl
    obtain ⟨vs', h1, h2, h3, h4, h5⟩ := Arr.setCells r (o + 1) (w.setCell ⟨g, o, none⟩ v) (vs.set o v) (h.set o v) (by simp; omega)
    refine ⟨vs', h1, by simpa using h2, fun i hi => ?_, fun i hi => ?_, fun i hi => ?_⟩
    · rw [h3 i (by omega), List.getElem?_set_ne (by omega)]
    · cases i with
      | zero => rw [Nat.add_zero, h3 o (by omega), List.getElem?_set_self (by omega)]; rfl
      | succ i => rw [show o + (i + 1) = o + 1 + i by omega, h4 i (by simpa using hi)]; rfl
    · simp only [List.length_cons] at hi
      rw [h5 i (by omega), List.getElem?_set_ne (by omega)]

theorem size_setCells {g : Nat} : ∀ (news : List Value) (o : Nat) (w : World), (w.setCells g o news).heap.size = w.heap.size
  | [], _, _ => rfl
  | v :: r, o, w => by rw [World.setCells, size_setCells r]; simp

theorem grownBy_setCells {g : Nat} : ∀ (news : List Value) (o : Nat) (w : World), w.grownBy (w.setCells g o news) (some g)
  | [], _, _ => ⟨rfl, rfl, rfl, Nat.le_refl _, fun _ _ _ => rfl⟩
  | v :: r, o, w => by
    have h := grownBy_setCells (g := g) r (o + 1) (w.setCell ⟨g, o, none⟩ v)
    exact ⟨h.os, h.tape, h.output, by have := h.size; simpa [World.setCells] using this, fun k hk hne => by
      refine (h.block k (by simpa using hk) hne).trans (Below.heap_setCell _ _ _ _ ?_)
      intro e; exact hne (by simp at e; simp [e])⟩

/-- 'append(v, x...)', v a slice of the call's own, x whatever yields the cells 'news'. -/
theorem run_append_OwnV (w : World) (B : Nat) (t tx ty e : TypeId) (z : Value) (bytes : Nat) (ht : P.underlying t = some (.slice e)) (hinfo : (P.info? e).map (fun i => (i.zero, i.size, i.bytes)) = some (some z, 1, bytes)) (hz1 : z.cells.size = 1)
    (v : Value) (xs : List Value) (hv : OwnV w B e v xs) (x : Value) (n : Nat) (news : List Value) (hs : Src P 1 tx x n news w) (hB : B ≤ w.heap.size)
    (h63 : xs.length + n ≤ maxLen) (hbytes : (xs.length + n) * bytes ≤ 140737488355328) :
    ∃ v' w', (Builtin.append_ #[t, tx] ty #[v, x]).run P w = .ok v' w' ∧ OwnV w' B e v' (xs ++ news) ∧ w.grownBy w' v.ownBlock ∧ (v'.ownBlock = v.ownBlock ∨ ∀ k, v'.ownBlock = some k → w.heap.size ≤ k) := by
  obtain ⟨i, hi, hz, hsz, hby⟩ := info_parts hinfo
  have hnl : news.length = n := by simpa using hs.newsLen
  have hsmall : xs.length + n ≤ 9223372036854775807 := by simp only [maxLen] at h63; omega
  have hs' : Src P i.size tx x n news w := by rw [hsz]; exact hs
  -- the arm that grows
  have grown : ∀ (base : Option Addr) (cap : Nat), cap < xs.length + n → (Builtin.firstCells i.size xs.length (.slice base xs.length cap)).run P w.drew = .ok xs.toArray w.drew → ∀ row : Option Nat,
      ∃ v' w', (Builtin.append_ #[t, tx] ty #[.slice base xs.length cap, x]).run P w = .ok v' w' ∧ OwnV w' B e v' (xs ++ news) ∧ w.grownBy w' row ∧ ∀ k, v'.ownBlock = some k → w.heap.size ≤ k := by
    intro base cap hcap hold row
    have hr := run_append_grow_src (P := P) w t tx ty e i z ht hi hz base xs.length cap xs hold x n news hs' hcap (by omega) (growslice_fits hcap (by rw [hby]; exact hbytes))
    have hge := grownCap_ge w (xs.length + n) cap e
    have hcm : grownCap w (xs.length + n) cap e ≤ maxLen := grownCap_le_maxLen w (xs.length + n) cap e h63
    refine ⟨_, _, hr, .inr ⟨w.heap.size, 0, _, (xs ++ news) ++ (Builtin.zeroCells z.cells (grownCap w (xs.length + n) cap e - (xs.length + n))).toList, by simp [hnl], hB, ?_, by simp [hnl]; exact hge, ?_, hcm, ?_⟩, ⟨rfl, rfl, rfl, by simp, fun k hk _ => Below.heap_alloc w.drew _ k hk⟩, ?_⟩
    · have := Arr.new w.drew e ((xs ++ news) ++ (Builtin.zeroCells z.cells (grownCap w (xs.length + n) cap e - (xs.length + n))).toList)
      have ea : ((xs ++ news) ++ (Builtin.zeroCells z.cells (grownCap w (xs.length + n) cap e - (xs.length + n))).toList).toArray = (xs ++ news).toArray ++ Builtin.zeroCells z.cells (grownCap w (xs.length + n) cap e - (xs.length + n)) := by
        apply Array.ext'; simp
      rw [ea] at this
      exact this
    · simp only [List.length_append, Array.length_toList, size_zeroCells, hz1, hnl]
      omega
    · intro j hj
      rw [Nat.zero_add, List.getElem?_append_left hj]
    · intro k hk
      simp [Value.ownBlock] at hk
      omega
  rcases hv with ⟨rfl, rfl⟩ | ⟨g, off, cap, vs, rfl, hBg, ha, h1, h2, h3, h4⟩
  · by_cases hn : n = 0
    · subst hn
      obtain rfl : news = [] := List.eq_nil_of_length_eq_zero hnl
      refine ⟨.slice none 0 0, w, ?_, .inl ⟨rfl, rfl⟩, ⟨rfl, rfl, rfl, Nat.le_refl _, fun _ _ _ => rfl⟩, .inl rfl⟩
      rcases hs'.kind with ⟨e', hk⟩ | hk <;> simp [Builtin.append_, run_underlying ht, run_underlying hk, sizeOf, typeInfo, hi, hs'.len, hs'.cells]
    · obtain ⟨v', w', q1, q2, q3, q4⟩ := grown none 0 (by simp; omega) (by simpa using run_firstCells_none (P := P) w.drew i.size 0 0 0) (Value.ownBlock (.slice none 0 0))
      exact ⟨v', w', q1, q2, q3, .inr q4⟩
  · by_cases hroom : xs.length + n ≤ cap
    · have hr := run_append_room_src (P := P) w t tx ty e i ht hi g off xs.length cap x n news hs' hroom
        (fun j hj => by rw [hsz, Nat.mul_one, ha.cell, List.getElem?_eq_getElem (by omega)]; rfl) (fun j hj => ha.frozen _)
      rw [hsz, Nat.mul_one] at hr
      obtain ⟨vs', k1, k2, k3, k4, k5⟩ := Arr.setCells news (off + xs.length) w vs ha (by omega)
      refine ⟨_, _, hr, .inr ⟨g, off, cap, vs', by simp [hnl], hBg, k1, by simp [hnl]; exact hroom, by omega, h3, ?_⟩, grownBy_setCells _ _ _, .inl rfl⟩
      intro j hj
      by_cases hjx : j < xs.length
      · rw [k3 _ (by omega), h4 j hjx, List.getElem?_append_left hjx]
      · obtain ⟨j', rfl⟩ : ∃ j', j = xs.length + j' := ⟨j - xs.length, by omega⟩
        rw [← Nat.add_assoc, k4 j' (by simp at hj; omega), List.getElem?_append_right (by omega), Nat.add_sub_cancel_left]
    · have hold : (Builtin.firstCells i.size xs.length (.slice (some ⟨g, off, none⟩) xs.length cap)).run P w.drew = .ok xs.toArray w.drew := by
        refine run_firstCells_some w.drew i.size xs.length ⟨g, off, none⟩ xs.length cap xs (by rw [hsz, Nat.mul_one]) fun j u hu => ?_
        have hj : j < xs.length := (List.getElem?_eq_some_iff.1 hu).1
        have hadd : (⟨g, off, none⟩ : Addr).add j = ⟨g, off + j, none⟩ := by unfold Addr.add; split <;> simp_all
        rw [hadd, World.cell?_drew, ha.cell, h4 j hj, hu]
      obtain ⟨v', w', q1, q2, q3, q4⟩ := grown (some ⟨g, off, none⟩) cap (by omega) hold (some g)
      exact ⟨v', w', q1, q2, q3, .inr q4⟩

/-- The same as a law for the walk: the value behind it is written out; m: its length. -/
theorem wpList_append_OwnV {w : World} {ops : Array Oper} {rest : List Oper} {o : Oper} {a : Act} {Q : Exit → Act → World → Prop} (hgd : o.guard = none) (s x : Operand) (t tx : TypeId)
    (ho : o.op = .call { callee := .builtin .append, args := #[s, x], argTypes := #[t, tx] })
    (B : Nat) (e : TypeId) (z : Value) (bytes : Nat) (ht : P.underlying t = some (.slice e)) (hinfo : (P.info? e).map (fun i => (i.zero, i.size, i.bytes)) = some (some z, 1, bytes)) (hz1 : z.cells.size = 1)
    (v : Value) (xs : List Value) (hsv : a.eval s = v) (hv : OwnV w B e v xs) (xv : Value) (n : Nat) (news : List Value) (hxv : a.eval x = xv) (hs : Src P 1 tx xv n news w) (hB : B ≤ w.heap.size)
    (m : Nat) (hm : xs.length + n = m) (h63 : m ≤ maxLen) (hbytes : m * bytes ≤ 140737488355328)
    (h : ∀ a' c' w', OwnV w' B e (.slice a' m c') (xs ++ news) → w.grownBy w' v.ownBlock → ((Value.slice a' m c').ownBlock = v.ownBlock ∨ ∀ k, (Value.slice a' m c').ownBlock = some k → w.heap.size ≤ k) → wpList P ops Q rest (a.put o.dst (.slice a' m c')) w') :
    wpList P ops Q (o :: rest) a w := by
  subst hm
  refine wpList_plain hgd fun K hK => ?_
  obtain ⟨v', w', hr, h2, h3, h4⟩ := run_append_OwnV (P := P) w B t tx o.type e z bytes ht hinfo hz1 v xs hv xv n news hs hB h63 hbytes
  obtain ⟨a', c', rfl⟩ := h2.shape
  have hl : (xs ++ news).length = xs.length + n := by rw [List.length_append]; congr 1; simpa using hs.newsLen
  rw [hl] at h2 h4 hr
  unfold Oper.wp execOp
  simp only [ho, resolve, invoke, builtin, Sem.run_bind, Sem.run_pure, Result.andThen_ok, List.map_toArray, List.map_cons, List.map_nil, hsv, hxv, hr]
  exact hK _ _ (h a' c' w' h2 h3 h4)
end
end Go.Proofs.Qxb6619225a.Mem
