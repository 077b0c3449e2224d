/-
  The proof of Rows.FnXorUndoesItselfAndAddsWithoutCarrySaid: the frame over the walk 'law1'.
-/
import Derived.Test.Qxb6618425aLaw1
import Derived.ProofKit
import Derived.OpenShut
import Derived.ShutString
import Derived.ChangeOld
import Derived.Below
namespace Go.Proofs.Qxb6618425a
open Go.ChangeShapes Go.WideShapes Go.ChangeAt Go.RowKit

theorem own : ownKnob Try.prog.godebug = none := by kernel_rfl
theorem laidOut : laidOutB Try.prog = true := by kernel_rfl
theorem Try.cells22 : Try.prog.cellsOf 22 = 32 := by kernel_rfl

/-- The bytes of a row of cells. -/
def natsOf (vs : List Value) : List Nat := vs.map fun v => (intOf v).toNat

theorem open_id32 {H : Type} {enc : TypeId × Value → H} {W : World} {r : Reach} {b0 base : Nat} {spare : Nat → Bool} {held : Bool} {v : Value} {d : DataW H} {p : List MemPlace}
    (hv : Value.okWide Try.prog W r b0 22 v) (h : DataW.Trod enc Try.prog W base spare held 22 v d p) : ∃ l, v = .agg (U l).toArray ∧ Id32 l := by
  unfold Value.okWide at hv
  rw [Try.underlying22] at hv
  obtain ⟨cs, rfl, hsz, _⟩ := hv
  rw [Try.cells22] at hsz
  obtain ⟨fuel, hf⟩ := h
  obtain ⟨xs, m, _, _, _, hxl, hx⟩ := DataW.trod_array Try.underlying22 hf
  have hcell : ∀ i, i < 32 → ∃ n : Int, cs.toList[i]? = some (.int .u8 n) ∧ 0 ≤ n ∧ n ≤ 255 := by
    intro i hi
    have h1 := hx i hi
    rw [Try.cells5] at h1
    have hlt : i < cs.toList.length := by simp [hsz, hi]
    have h2 : ((Value.agg cs).cells.toList.drop (i * 1)).take 1 = [cs.toList[i]] := by
      simp only [Value.cells, Nat.mul_one]
      rw [List.drop_eq_getElem_cons hlt]
      rfl
    rw [h2, List.getElem?_eq_getElem (by rw [hxl]; exact hi)] at h1
    obtain ⟨n, e, _, wn⟩ := DataW.trod_int Try.underlying5 h1
    have hb := bounds_u8 wn
    refine ⟨n, ?_, hb.1, hb.2⟩
    rw [List.getElem?_eq_getElem hlt]
    simpa using e
  refine ⟨natsOf cs.toList, ?_, ?_, ?_⟩
  · congr 1
    apply Array.ext'
    apply List.ext_getElem?
    intro i
    by_cases hi : i < 32
    · obtain ⟨n, hn, h0, _⟩ := hcell i hi
      simp only [U, natsOf, List.getElem?_map, hn, Option.map_some, intOf]
      congr 2
      omega
    · rw [List.getElem?_eq_none (by simp [hsz]; omega), List.getElem?_eq_none (by simp [U, natsOf, hsz]; omega)]
  · simp [natsOf, hsz]
  · intro k
    by_cases hk : k < 32
    · obtain ⟨n, hn, h0, h1⟩ := hcell k hk
      simp only [natsOf, List.getD_eq_getElem?_getD, List.getElem?_map, hn, Option.map_some, intOf, Option.getD_some]
      omega
    · simp only [natsOf, List.getD_eq_getElem?_getD]
      rw [List.getElem?_eq_none (by simp [hsz]; omega)]
      decide

namespace Undo
set_option maxRecDepth 100000 in
theorem lifted (os : Os) (started : os.Started) (H : Type) (enc : TypeId × Value → H) :
    ReturnsInHanded {} Try.checked os 3 .any (Rows.fnXorUndoesItselfAndAddsWithoutCarrySpec.pre6 enc Try.prog Try.f3 Rows.fnXorUndoesItselfAndAddsWithoutCarryRow.domain false) (Rows.fnXorUndoesItselfAndAddsWithoutCarrySpec.post enc Try.prog Try.f3 false true false false) := by
  refine returnsInHanded_of_change (C := Try.checked) own started (by kernel_rfl) Try.func3
    (ChangeSpec.witness6 (enc := enc) (C := Try.checked) false ⟨#[], #[.agg (U (List.replicate 32 0)).toArray, .agg (U (List.replicate 32 0)).toArray], []⟩ 8 (by kernel_rfl) (by kernel_rfl) (by kernel_rfl) (by kernel_rfl)) ?_
  intro W base args ds gs before hval0 hW hcnd _
  have hval : ∀ (j : Nat) t v, Try.f3.params[j]? = some t → args[j]? = some v → Value.okWide Try.prog W .any base t v := hval0
  have hW' := hW
  obtain ⟨p, q, hA0, hV, rfl, hfz, hnd⟩ := hW
  have hA : DataW.TrodAll enc Try.prog W 0 (fun _ => true) true Try.f3.params.toList args.toList ds p := hA0
  rw [Try.params3] at hA hval
  obtain ⟨v0, vs0, d0, ds0, p0, q0, hargs, rfl, rfl, h0, r0⟩ := trodAll_cons hA
  obtain ⟨v1, vs1, d1, ds1, p1, q1, rfl, rfl, rfl, h1, r1⟩ := trodAll_cons r0
  obtain ⟨rfl, rfl, rfl⟩ := trodAll_nil r1
  obtain rfl : args = #[v0, v1] := by cases args; simp_all
  obtain ⟨rfl, rfl⟩ := trodVars_none hV
  have k0 := h0
  have lt0 : ∀ x ∈ p0, x.block < W.heap.size := by obtain ⟨m, hm⟩ := k0; exact DataW.trod_lt m _ _ _ hm
  have k1 := h1
  have lt1 : ∀ x ∈ p1, x.block < W.heap.size := by obtain ⟨m, hm⟩ := k1; exact DataW.trod_lt m _ _ _ hm
  obtain ⟨la, rfl, ha⟩ := open_id32 (hval 0 22 v0 rfl rfl) h0
  obtain ⟨lb, rfl, hb⟩ := open_id32 (hval 1 22 v1 rfl rfl) h1
  clear hA0 hval0
  refine (law1 la lb W ha hb).mono fun e W' ⟨he, bel⟩ => ?_
  subst he
  exact ⟨_, rfl, _, _, _, [], _, [], hW', trodAll_mk1 (shut_bool Try.underlying4 _), (trodAll_cons_mk (Below.trod laidOut (by kernel_rfl) (of_decide_eq_true (by kernel_rfl)) k0 bel lt0) (trodAll_cons_mk (Below.trod laidOut (by kernel_rfl) (of_decide_eq_true (by kernel_rfl)) k1 bel lt1) trodAll_mk0)), rfl, bel.frame _, fun h => by cases h⟩

theorem over : Rows.fnXorUndoesItselfAndAddsWithoutCarryRow.holds Try.pinned (OpenSpec.ofChange Rows.fnXorUndoesItselfAndAddsWithoutCarrySpec) :=
  OpenClaim.holds_of_wide 3 Try.f3 rfl rfl rfl rfl rfl rfl rfl ⟨rfl, rfl, rfl, rfl, rfl⟩ rfl rfl rfl rfl rfl (by kernel_rfl) Try.func3 (by kernel_rfl)
    (of_decide_eq_true (by kernel_rfl)) (by unfold Func.isWrapper; first | (rw [if_pos (by decide +kernel)]; kernel_rfl) | (rw [if_neg (by decide +kernel)]; exact ⟨rfl, rfl⟩))
    (fun os started H enc _ => lifted os started H enc)
end Undo

/-- THE STATEMENT -/
theorem xor_undoes_said : Rows.FnXorUndoesItselfAndAddsWithoutCarrySaid := Undo.over
end Go.Proofs.Qxb6618425a
