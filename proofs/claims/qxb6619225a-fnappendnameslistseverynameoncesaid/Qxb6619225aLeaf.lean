/-
  The small functions over nodes and names: ZZNewName, ZZNewNode, ZZAddName, ZZAddNode, ZZNamePlace.
-/
import Derived.Test.Qxb6619225aRows
import Derived.Test.Qxb6619225aRow
import Derived.BigQuiet
import Derived.Deep.CutBlock
import Derived.Deep.DeepCutAuto
import Derived.StillTailTactics
namespace Go.Proofs.Qxb6619225a
set_option linter.unusedVariables false
open Go.RowKit Mem

theorem Try.info35 : (Try.prog.info? 35).map (fun i => (i.zero, i.size, i.bytes)) = some (some (.pointer none), 1, 8) := by kernel_rfl
theorem Try.info67 : (Try.prog.info? 67).map (fun i => (i.zero, i.size, i.bytes)) = some (some (.agg #[.pointer none, .pointer none]), 2, 16) := by kernel_rfl

def nodeCells (s : Value) : List Value := [.int .u32 0, .bool false, s, .pointer none, .pointer none]

theorem newName_any (id tag : Int) (w : World) :
    Calls Try.prog 17 #[.int .i32 id, .int .i64 tag] w fun e w' => ∃ g vs, e = .returned (.pointer (some ⟨g, 0, none⟩)) ∧ w.heap.size ≤ g ∧ Arr w' g 55 vs ∧ vs[5]? = some (.int .i64 tag) ∧ Below w.heap.size w w' := by
  go_enter Try.func17, Try.ntmps17
  go_wp2_with (refine wpList_box_abs rfl 55 _ rfl _ rfl ?_; intro g w1 hg hgl hA hb)
  go_ret
  exact ⟨g, _, rfl, hg, hA, rfl, hb⟩

theorem newNode_any (w : World) :
    Calls Try.prog 24 #[] w fun e w' => ∃ g, e = .returned (.pointer (some ⟨g, 0, none⟩)) ∧ w.heap.size ≤ g ∧ Arr w' g 65 (nodeCells (.slice none 0 0)) ∧ Below w.heap.size w w' := by
  go_enter Try.func24, Try.ntmps24
  go_wp2_with (refine wpList_box_abs rfl 65 _ rfl _ rfl ?_; intro g w1 hg hgl hA hb)
  go_ret
  exact ⟨g, rfl, hg, hA, hb⟩

theorem namePlace_any (g : Nat) (t : Int) (w : World) (h : w.cell? ⟨g, 5, none⟩ = some (.int .i64 t)) :
    Calls Try.prog 20 #[.pointer (some ⟨g, 0, none⟩)] w fun e w' => e = .returned (.int .i64 t) ∧ w = w' := by
  go_enter Try.func20, Try.ntmps20
  go_wp2
  go_ret
  exact ⟨rfl, rfl⟩
set_option maxRecDepth 100000 in
theorem addName_any (g B k : Nat) (s : Value) (xs : List Value) (p : Option Addr) (w : World) (hN : Arr w g 65 (nodeCells s)) (hS : OwnW w B 67 2 s k xs) (hB : B ≤ w.heap.size) (hk : k ≤ 100000) :
    Calls Try.prog 25 #[.pointer (some ⟨g, 0, none⟩), .pointer p] w fun e w' => ∃ r s', e = .returned r ∧ Arr w' g 65 (nodeCells s') ∧ OwnW w' B 67 2 s' (k + 1) (xs ++ [.pointer p, .pointer none]) ∧ Fr (fun x => x = g ∨ s.ownBlock = some x) w w' ∧
      (s'.ownBlock = s.ownBlock ∨ ∀ k, s'.ownBlock = some k → w.heap.size ≤ k) := by
  obtain ⟨sa, sc, rfl⟩ := hS.shape
  have hc : w.cell? ⟨g, 2, none⟩ = some (.slice sa k sc) := by rw [hN.cell]; rfl
  have hb1 : Below w.heap.size w (w.alloc (.cells #[.pointer p, .pointer none] 67)) := (Below.refl _ _).alloc (Nat.le_refl _) _
  have hX := Arr.new w 67 [.pointer p, .pointer none]
  have hS1 : OwnW (w.alloc (.cells #[.pointer p, .pointer none] 67)) B 67 2 (.slice sa k sc) k xs := hS.fr (Fr.ofBelow (S := fun _ => False) hb1) (fun _ _ h => h)
  have hN1 : Arr (w.alloc (.cells #[.pointer p, .pointer none] 67)) g 65 (nodeCells (.slice sa k sc)) := hN.below hb1 hN.lt
  have hsrc : Src Try.prog 2 61 (.slice (some ⟨w.heap.size, 0, none⟩) 1 1) 1 [.pointer p, .pointer none] (w.alloc (.cells #[.pointer p, .pointer none] 67)) :=
    Src.ofSlice _ Try.underlying61 ⟨w.heap.size, 0, none⟩ 1 1 [.pointer p, .pointer none] rfl (fun j u hu => by
      have hadd : (⟨w.heap.size, 0, none⟩ : Addr).add j = ⟨w.heap.size, 0 + j, none⟩ := by unfold Addr.add; split <;> simp_all
      have := hX.cell j
      rw [hadd, Nat.zero_add]
      exact this.trans hu) (by simp [Value.oneCell'])
  have hB1 : B ≤ (w.alloc (.cells #[.pointer p, .pointer none] 67)).heap.size := Nat.le_trans hB hb1.size
  go_enter Try.func25, Try.ntmps25
  go_wp2_with (at_builtin; go_must (refine wpList_append_OwnW rfl _ _ 61 61 rfl B 67 (.agg #[.pointer none, .pointer none]) 2 16 Try.underlying61 Try.info67 rfl (.slice sa k sc) k xs rfl hS1 _ [.pointer p, .pointer none] rfl hsrc hB1 (by unfold maxLen; omega) (by omega) ?_; intro g2 c2 w2 hS2 hG2 hblk; have hne : some g ≠ (Value.slice sa k sc).ownBlock := (by intro e; obtain ⟨_, vs, ha⟩ := hS.arr e.symm; exact absurd (Arr.tag hN ha) (by decide)); have hN2 := hN1.grown hG2 hne; have hc2 : w2.cell? ⟨g, 2, none⟩ = some (.slice sa k sc) := (by rw [hN2.cell]; rfl); have hf2 := hN2.frozen 2))
  go_end0
  have hN3 := hN2.set 2 (.slice (some ⟨g2, 0, none⟩) (k + 1) c2)
  have hne2 : g2 ≠ g := by
    intro e
    obtain ⟨_, vs, ha⟩ := hS2.arr (k := g2) rfl
    rw [e] at ha
    exact absurd (Arr.tag hN2 ha) (by decide)
  refine ⟨_, _, rfl, hN3, hS2.fr (Fr.setCell (S := fun x => x = g) rfl _) (fun k hk e => hne2 (by simp [Value.ownBlock] at hk; omega)), ?_, ?_⟩
  · refine ((Fr.ofBelow hb1).trans (Fr.grown (S := fun x => (Value.slice sa k sc).ownBlock = some x) hG2 (fun k hk => hk)) (fun x _ h => .inr h)).trans (Fr.setCell (S := fun x => x = g) rfl _) (fun x _ h => .inl h)
  · rcases hblk with h | h
    · exact .inl h
    · exact .inr (fun x hx => by simp [Value.ownBlock] at hx; have := hb1.size; omega)

set_option maxRecDepth 100000 in
theorem addNode_any (g B k : Nat) (s : Value) (xs : List Value) (p : Option Addr) (w : World) (hN : Arr w g 65 (nodeCells s)) (hS : OwnW w B 67 2 s k xs) (hB : B ≤ w.heap.size) (hk : k ≤ 100000) :
    Calls Try.prog 26 #[.pointer (some ⟨g, 0, none⟩), .pointer p] w fun e w' => ∃ r s', e = .returned r ∧ Arr w' g 65 (nodeCells s') ∧ OwnW w' B 67 2 s' (k + 1) (xs ++ [.pointer none, .pointer p]) ∧ Fr (fun x => x = g ∨ s.ownBlock = some x) w w' ∧
      (s'.ownBlock = s.ownBlock ∨ ∀ k, s'.ownBlock = some k → w.heap.size ≤ k) := by
  obtain ⟨sa, sc, rfl⟩ := hS.shape
  have hc : w.cell? ⟨g, 2, none⟩ = some (.slice sa k sc) := by rw [hN.cell]; rfl
  have hb1 : Below w.heap.size w (w.alloc (.cells #[.pointer none, .pointer p] 67)) := (Below.refl _ _).alloc (Nat.le_refl _) _
  have hX := Arr.new w 67 [.pointer none, .pointer p]
  have hS1 : OwnW (w.alloc (.cells #[.pointer none, .pointer p] 67)) B 67 2 (.slice sa k sc) k xs := hS.fr (Fr.ofBelow (S := fun _ => False) hb1) (fun _ _ h => h)
  have hN1 : Arr (w.alloc (.cells #[.pointer none, .pointer p] 67)) g 65 (nodeCells (.slice sa k sc)) := hN.below hb1 hN.lt
  have hsrc : Src Try.prog 2 61 (.slice (some ⟨w.heap.size, 0, none⟩) 1 1) 1 [.pointer none, .pointer p] (w.alloc (.cells #[.pointer none, .pointer p] 67)) :=
    Src.ofSlice _ Try.underlying61 ⟨w.heap.size, 0, none⟩ 1 1 [.pointer none, .pointer p] rfl (fun j u hu => by
      have hadd : (⟨w.heap.size, 0, none⟩ : Addr).add j = ⟨w.heap.size, 0 + j, none⟩ := by unfold Addr.add; split <;> simp_all
      have := hX.cell j
      rw [hadd, Nat.zero_add]
      exact this.trans hu) (by simp [Value.oneCell'])
  have hB1 : B ≤ (w.alloc (.cells #[.pointer none, .pointer p] 67)).heap.size := Nat.le_trans hB hb1.size
  go_enter Try.func26, Try.ntmps26
  go_wp2_with (at_builtin; go_must (refine wpList_append_OwnW rfl _ _ 61 61 rfl B 67 (.agg #[.pointer none, .pointer none]) 2 16 Try.underlying61 Try.info67 rfl (.slice sa k sc) k xs rfl hS1 _ [.pointer none, .pointer p] rfl hsrc hB1 (by unfold maxLen; omega) (by omega) ?_; intro g2 c2 w2 hS2 hG2 hblk; have hne : some g ≠ (Value.slice sa k sc).ownBlock := (by intro e; obtain ⟨_, vs, ha⟩ := hS.arr e.symm; exact absurd (Arr.tag hN ha) (by decide)); have hN2 := hN1.grown hG2 hne; have hc2 : w2.cell? ⟨g, 2, none⟩ = some (.slice sa k sc) := (by rw [hN2.cell]; rfl); have hf2 := hN2.frozen 2))
  go_end0
  have hN3 := hN2.set 2 (.slice (some ⟨g2, 0, none⟩) (k + 1) c2)
  have hne2 : g2 ≠ g := by
    intro e
    obtain ⟨_, vs, ha⟩ := hS2.arr (k := g2) rfl
    rw [e] at ha
    exact absurd (Arr.tag hN2 ha) (by decide)
  refine ⟨_, _, rfl, hN3, hS2.fr (Fr.setCell (S := fun x => x = g) rfl _) (fun k hk e => hne2 (by simp [Value.ownBlock] at hk; omega)), ?_, ?_⟩
  · refine ((Fr.ofBelow hb1).trans (Fr.grown (S := fun x => (Value.slice sa k sc).ownBlock = some x) hG2 (fun k hk => hk)) (fun x _ h => .inr h)).trans (Fr.setCell (S := fun x => x = g) rfl _) (fun x _ h => .inl h)
  · rcases hblk with h | h
    · exact .inl h
    · exact .inr (fun x hx => by simp [Value.ownBlock] at hx; have := hb1.size; omega)

end Go.Proofs.Qxb6619225a
