/-
  The running map as a function: 'MapIs w b n f ks': block b is a map of at most n entries that holds f; ks: its keys.
-/
import Derived.Test.Qxb6618441aZz
import Derived.Maps.OwnSet
namespace Go.Proofs.Qxb6618441a
set_option linter.unusedVariables false
open Go.RowKit Mem
open Go.Maps (Keyed)

theorem law3 : Keyed Try.prog 3 := Maps.int_keyed Try.underlying3
theorem zero3 (w : World) : (zeroValue 3).run Try.prog w = .ok (.int .i64 0) w := by kernel_rfl

/-- A number that an int holds. -/
def W64 (x : Int) : Prop := (Lit.int .i64 x).wf = true

def MapIs (w : World) (b n : Nat) (f : Int → Option Int) (ks : List Int) : Prop :=
  ∃ D : DataW Unit, w.ownsMap Try.prog 3 (plainElem Try.prog 3) b n D ∧
    (∀ id, W64 id → Maps.has D (.int .i64 id) = (f id).isSome ∧ D.atKey (.int .i64 id) (.lit (.int .i64 0)) = .lit (.int .i64 ((f id).getD 0))) ∧
    Maps.size D = ks.length ∧ Keys f ks

theorem isKey (id : Int) : WideAt.IsKeyLit (.int .i64 id) := trivial

theorem MapIs.kept {w w' : World} {b n : Nat} {f : Int → Option Int} {ks : List Int} {row : Option Nat} (h : MapIs w b n f ks) (hg : w.grownBy w' row) (hne : some b ≠ row) : MapIs w' b n f ks := by
  obtain ⟨D, h1, h2⟩ := h
  exact ⟨D, h1.kept hg hne, h2⟩

theorem grownBy_of_below {w w' : World} {B : Nat} (hb : Below B w w') (hB : w.heap.size ≤ B) : w.grownBy w' none :=
  ⟨hb.os, hb.tape, hb.output, hb.size, fun k hk _ => hb.block k (by omega)⟩

theorem MapIs.below {w w' : World} {b n : Nat} {f : Int → Option Int} {ks : List Int} (h : MapIs w b n f ks) (hb : Below w.heap.size w w') : MapIs w' b n f ks :=
  h.kept (grownBy_of_below hb (Nat.le_refl _)) (by simp)

theorem MapIs.lt {w : World} {b n : Nat} {f : Int → Option Int} {ks : List Int} (h : MapIs w b n f ks) : b < w.heap.size := by
  obtain ⟨D, h1, _⟩ := h; exact h1.lt

theorem MapIs.congr {w : World} {b n : Nat} {f g : Int → Option Int} {ks : List Int} (h : MapIs w b n f ks) (e : ∀ x, f x = g x) : MapIs w b n g ks := by
  obtain rfl : f = g := funext e
  exact h

theorem MapIs.made (w : World) : MapIs (w.alloc (.map #[] 0)) w.heap.size 0 (fun _ => none) [] :=
  ⟨.map [], World.ownsMap_made w Try.prog 3 _, fun id _ => ⟨rfl, rfl⟩, rfl, Keys.nil⟩

theorem MapIs.setCell {w : World} {b n : Nat} {f : Int → Option Int} {ks : List Int} (h : MapIs w b n f ks) {g k : Nat} (hne : b ≠ g) (u : Value) : MapIs (w.setCell ⟨g, k, none⟩ u) b n f ks := by
  obtain ⟨D, h1, h2⟩ := h
  exact ⟨D, h1.setCell (by simpa using hne) u, h2⟩

section
variable {ops : Array Oper} {rest : List Oper} {o : Oper} {a : Act} {Q : Exit → Act → World → Prop} {w : World}

theorem wpList_makeMap (hg : o.guard = none) (x : Operand) (t k e : TypeId) (ho : o.op = .makeMap t (some x)) (ht : Try.prog.underlying t = some (.map k e)) (q : IntKind) (n : Int) (hx : a.eval x = .int q n)
    (hK : ∀ b w', w.heap.size ≤ b → MapIs w' b 0 (fun _ => none) [] → Below w.heap.size w w' → wpList Try.prog ops Q rest (a.put o.dst (.map (some b))) w') : wpList Try.prog ops Q (o :: rest) a w := by
  refine wpList_plain hg fun K hK' => ?_
  have hk := hK w.heap.size (w.alloc (.map #[] 0)) (Nat.le_refl _) (MapIs.made w) ((Below.refl _ _).alloc (Nat.le_refl _) _)
  have hr : (Instr.makeMap t (some (.int q n))).run Try.prog w = .ok (.map (some w.heap.size)) (w.alloc (.map #[] 0)) := by
    simp only [Instr.makeMap, Sem.run_bind, run_underlying ht, Result.andThen_ok]
    simp [asInt, asIntOf]
  unfold Oper.wp
  simp [execOp, ho, hx, hr, Result.andThen]
  exact hK' _ _ hk

theorem wpList_put (hg : o.guard = none) (m x v : Operand) (ho : o.op = .mapUpdate 34 m x v) (b n : Nat) (f : Int → Option Int) (ks : List Int) (hm : a.eval m = .map (some b)) (h : MapIs w b n f ks) (hn : n < maxLen)
    (id p : Int) (hx : a.eval x = .int .i64 id) (hv : a.eval v = .int .i64 p) (hid : W64 id) (hp : W64 p)
    (hK : ∀ w', MapIs w' b (n + 1) (fun y => if id == y then some p else f y) (keyPut ks id) → w.grownBy w' (some b) → wpList Try.prog ops Q rest (a.put o.dst undef) w') : wpList Try.prog ops Q (o :: rest) a w := by
  obtain ⟨D, h1, h2, h3, h4⟩ := h
  refine wpList_mapUpdate_own w hg m x v 34 ho 3 3 law3 Try.underlying34 _ b n D hm h1 hn _ _ _ hx hv (Maps.keyOf_int_mk Try.underlying3 hid) _ [] (plainElem_int Try.underlying3 hp) ?_
  intro w' hw' hgr
  refine hK w' ⟨_, hw', fun y hy => ?_, ?_, h4.put id p⟩ hgr
  · by_cases e : id = y
    · subst e
      simp only [beq_self_eq_true, if_true]
      exact ⟨Maps.has_put_same h1.isMap (isKey _) _, Maps.atKey_put_same h1.isMap (isKey _) _ _⟩
    · have hne : (Lit.int .i64 y) ≠ (Lit.int .i64 id) := fun e' => e (by injection e' with _ e'; exact e'.symm)
      have hb : (id == y) = false := by simpa using e
      simp only [hb, Bool.false_eq_true, if_false]
      rw [Maps.has_put_other hne, Maps.atKey_put_other hne]
      exact h2 y hy
  · rw [Maps.size_put (h1.tidy law3), (h2 id hid).1]
    unfold keyPut
    by_cases hm : id ∈ ks
    · obtain ⟨q, hq⟩ := (h4.mem id).1 hm
      simp [hm, hq, h3]
    · have hn : f id = none := by
        cases hf : f id with
        | none => rfl
        | some q => exact absurd ((h4.mem id).2 ⟨q, hf⟩) hm
      simp [hm, hn, h3]

theorem wpList_get (hg : o.guard = none) (m x : Operand) (ho : o.op = .lookup 34 m x true) (b n : Nat) (f : Int → Option Int) (ks : List Int) (hm : a.eval m = .map (some b)) (h : MapIs w b n f ks)
    (id : Int) (hx : a.eval x = .int .i64 id) (hid : W64 id)
    (hK : wpList Try.prog ops Q rest (a.put o.dst (.tuple #[.int .i64 ((f id).getD 0), .bool (f id).isSome])) w) : wpList Try.prog ops Q (o :: rest) a w := by
  obtain ⟨D, h1, h2, h3, h4⟩ := h
  refine wpList_lookup_own_ok_int w hg m x 34 ho 3 3 .i64 law3 Try.underlying34 Try.underlying3 (zero3 w) b n D hm h1 _ _ hx (Maps.keyOf_int_mk Try.underlying3 hid) ?_
  intro c hat hwc
  rw [(h2 id hid).2] at hat
  obtain rfl : (f id).getD 0 = c := by simpa using hat
  rw [(h2 id hid).1]
  exact hK

theorem wpList_del (hg : o.guard = none) (m x : Operand) (ho : o.op = .call { callee := .builtin .delete, args := #[m, x], argTypes := #[34, 3] }) (b n : Nat) (f : Int → Option Int) (ks : List Int) (hm : a.eval m = .map (some b)) (h : MapIs w b n f ks)
    (id : Int) (hx : a.eval x = .int .i64 id) (hid : W64 id)
    (hK : ∀ w', MapIs w' b n (without f id) (ks.erase id) → w.grownBy w' (some b) → wpList Try.prog ops Q rest (a.put o.dst (.tuple #[])) w') : wpList Try.prog ops Q (o :: rest) a w := by
  obtain ⟨D, h1, h2, h3, h4⟩ := h
  refine wpList_delete_own w hg m x 34 3 ho 3 law3 Try.underlying34 _ b n D hm h1 _ _ hx (Maps.keyOf_int_mk Try.underlying3 hid) ?_
  intro w' hw' htu
  refine hK w' ⟨_, hw', fun y hy => ?_, ?_, h4.del id⟩ htu.grown
  · unfold without
    by_cases e : y = id
    · subst e
      simp only [beq_self_eq_true, if_true]
      exact ⟨Maps.has_del_same, Maps.atKey_del_same _⟩
    · have hne : (Lit.int .i64 y) ≠ (Lit.int .i64 id) := fun e' => e (by injection e')
      have hb : (y == id) = false := by simpa using e
      simp only [hb, Bool.false_eq_true, if_false]
      rw [Maps.has_del_other hne, Maps.atKey_del_other hne]
      exact h2 y hy
  · have hs := Maps.size_del (k := .int .i64 id) (h1.tidy law3)
    rw [(h2 id hid).1, h3] at hs
    by_cases hm : id ∈ ks
    · obtain ⟨q, hq⟩ := (h4.mem id).1 hm
      rw [List.length_erase_of_mem hm]
      simp [hq] at hs
      omega
    · have hn : f id = none := by
        cases hf : f id with
        | none => rfl
        | some q => exact absurd ((h4.mem id).2 ⟨q, hf⟩) hm
      rw [List.erase_of_not_mem hm]
      simp [hn] at hs
      omega

theorem wpList_mapLen (hg : o.guard = none) (m : Operand) (ho : o.op = .call { callee := .builtin .len, args := #[m], argTypes := #[34] }) (b n : Nat) (f : Int → Option Int) (ks : List Int) (hm : a.eval m = .map (some b)) (h : MapIs w b n f ks)
    (hK : wpList Try.prog ops Q rest (a.put o.dst (.int .i64 (ks.length : Int))) w) : wpList Try.prog ops Q (o :: rest) a w := by
  obtain ⟨D, h1, h2, h3, h4⟩ := h
  refine wpList_len_own w hg m 34 ho 3 3 Try.underlying34 _ b n D hm h1 ?_
  rw [h3]
  exact hK
end
end Go.Proofs.Qxb6618441a
