/-
  The law's own walk: what its parts share.
-/
import Derived.Test.Qxb6618441aBig
namespace Go.Proofs.Qxb6618441a
set_option linter.unusedVariables false
open Go.RowKit Mem

theorem Try.info33 : (Try.prog.info? 33).map (fun i => (i.zero.isSome, i.size, i.bytes)) = some (true, 5, 56) := by kernel_rfl
theorem Try.info2 : (Try.prog.info? 2).map (fun i => (i.zero, i.size, i.bytes)) = some (some (.int .i64 0), 1, 8) := by kernel_rfl

theorem Try.zero33 : (Try.prog.info? 33).map (fun i => i.zero) = some (some (.agg (Cmd.cells Cmd.none).toArray)) := by kernel_rfl
theorem Try.zero28 : (Try.prog.info? 28).map (fun i => i.zero) = some (some (.agg (Cmd.cells Cmd.none).toArray)) := by kernel_rfl
theorem Try.size33 (c : Cmd) : (Try.prog.info? 33).map (·.size) = some (Cmd.cells c).length := by kernel_rfl
theorem Try.size28 (c : Cmd) : (Try.prog.info? 28).map (·.size) = some (Cmd.cells c).length := by kernel_rfl
theorem Cmd.one (c : Cmd) : ∀ v ∈ Cmd.cells c, v.oneCell' = true := by
  intro v hv
  simp [Cmd.cells] at hv
  rcases hv with rfl | rfl | rfl | rfl | rfl <;> rfl
theorem Cmd.len (c : Cmd) : (Cmd.cells c).length = 5 := rfl

/-- The first k rows are laid. -/
def IsRowTo (k : Nat) (vs : List Value) (cs : List Cmd) (es : List Int) : Prop :=
  vs.length = cs.length * 5 ∧ ∀ i, i < k → vs[i * 5]? = some (.int .i64 (cs.getD i Cmd.none).r) ∧ vs[i * 5 + 1]? = some (.string (cs.getD i Cmd.none).d) ∧ vs[i * 5 + 2]? = some (.string (cs.getD i Cmd.none).a) ∧
    vs[i * 5 + 3]? = some (.int .i64 (cs.getD i Cmd.none).s) ∧ vs[i * 5 + 4]? = some (.int .i64 (es.getD i 0))

theorem map_e (cs : List Cmd) (i : Nat) (hi : i < cs.length) : (cs.map Cmd.e).getD i 0 = (cs.getD i Cmd.none).e := by
  simp [List.getD_eq_getElem?_getD, hi]

theorem IsRowTo.fill {k : Nat} {vs vs' : List Value} {cs : List Cmd} (h : IsRowTo k vs cs (cs.map Cmd.e)) (hk : k < cs.length) (hl : vs'.length = vs.length) (h1 : ∀ i, i < k * 5 → vs'[i]? = vs[i]?)
    (h2 : ∀ i, i < (Cmd.cells (cs.getD k Cmd.none)).length → vs'[k * 5 + i]? = (Cmd.cells (cs.getD k Cmd.none))[i]?) : IsRowTo (k + 1) vs' cs (cs.map Cmd.e) := by
  refine ⟨by rw [hl]; exact h.1, fun i hi => ?_⟩
  by_cases e : i = k
  · subst e
    have g := fun j (hj : j < 5) => h2 j (by simpa [Cmd.cells] using hj)
    refine ⟨by simpa [Cmd.cells] using g 0 (by omega), by simpa [Cmd.cells] using g 1 (by omega), by simpa [Cmd.cells] using g 2 (by omega), by simpa [Cmd.cells] using g 3 (by omega), ?_⟩
    rw [map_e cs i hk]
    simpa [Cmd.cells] using g 4 (by omega)
  · obtain ⟨a0, a1, a2, a3, a4⟩ := h.2 i (by omega)
    exact ⟨by rw [h1 _ (by omega)]; exact a0, by rw [h1 _ (by omega)]; exact a1, by rw [h1 _ (by omega)]; exact a2, by rw [h1 _ (by omega)]; exact a3, by rw [h1 _ (by omega)]; exact a4⟩

/-- The code behind the block of that number. -/
def endsIn (n : Nat) : Code → Bool
  | .block k _ => Nat.beq k n
  | .seq _ b => endsIn n b
  | .scope c => endsIn n c
  | _ => false
def behind (n : Nat) : Code → Option Code
  | .seq a b => match endsIn n a with
    | true => some b
    | false => match behind n a with
      | some c => some c
      | none => behind n b
  | .block _ c => behind n c
  | .scope c => behind n c
  | _ => none
noncomputable def restOf (n : Nat) : Code := ((Try.f3.body.bind (behind n)).getD .skip)

theorem useK {K : Act → World → Prop} {c : Code} {Q : Exit → Act → World → Prop} {a : Act} {w : World} (hK : ∀ a w, Code.wp Try.prog c Q a w → K a w) (h : Code.wp Try.prog c Q a w) : K a w := hK a w h
end Go.Proofs.Qxb6618441a
