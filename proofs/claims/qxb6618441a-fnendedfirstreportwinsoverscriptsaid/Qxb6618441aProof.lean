/-
  The proof of Rows.FnEndedFirstReportWinsOverScriptSaid: the frame over the two walks.
-/
import Derived.Test.Qxb6618441aMain
import Derived.Test.Qxb6618441aOpen
namespace Go.Proofs.Qxb6618441a
set_option linter.unusedVariables false
open Go.ChangeShapes Go.WideShapes Go.ChangeAt Go.RowKit

theorem walk (a r nw ia : Option Addr) (ca cr cn ci : Nat) (cs : List Cmd) (run : List Run) (nows ids : List Int) (w : World) (hC : RC w a cs.length cs) (hR : RR w r run.length run) (hN : RI w nw nows.length nows) (hI : RI w ia ids.length ids)
    (h1 : cs.length ≤ maxLen) (h2 : run.length ≤ maxLen) (h3 : nows.length ≤ maxLen) (h4 : ids.length ≤ maxLen) (hwr : ∀ i, W64 (run.getD i (0, 0)).1 ∧ W64 (run.getD i (0, 0)).2) (hwi : ∀ i, W64 (ids.getD i 0)) :
    Calls Try.prog 3 #[.slice a cs.length ca, .slice r run.length cr, .slice nw nows.length cn, .slice ia ids.length ci] w fun e w' => e = .returned (.bool true) ∧ Below w.heap.size w w' := by
  by_cases hbig : 4096 < cs.length ∨ 4096 < run.length ∨ 4096 < nows.length ∨ 4096 < ids.length
  · exact law_big a r nw ia _ _ _ ca cr cn ci cs w hC h1 h2 h3 h4 hbig
  · exact law_small a r nw ia ca cr cn ci cs run nows ids w hC hR hN hI (by omega) (by omega) (by omega) (by omega) hwr hwi

set_option maxRecDepth 100000 in
theorem lifted (os : Os) (started : os.Started) (H : Type) (enc : TypeId × Value → H) :
    ReturnsInHanded {} Try.checked os 3 .any (Rows.fnEndedFirstReportWinsOverScriptSpec.pre6 enc Try.prog Try.f3 Rows.fnEndedFirstReportWinsOverScriptRow.domain false) (Rows.fnEndedFirstReportWinsOverScriptSpec.post enc Try.prog Try.f3 false true false false) := by
  refine returnsInHanded_of_change (C := Try.checked) own started (by kernel_rfl) Try.func3
    (ChangeSpec.witness6 (enc := enc) (C := Try.checked) false ⟨#[], #[.slice none 0 0, .slice none 0 0, .slice none 0 0, .slice none 0 0], []⟩ 8 (by kernel_rfl) (by kernel_rfl) (by kernel_rfl) (by kernel_rfl)) ?_
  intro W base args ds gs before hval0 hW hcnd _
  have hval : ∀ (j : Nat) t v, Try.f3.params[j]? = some t → args[j]? = some v → Value.okWide Try.prog W .any base t v := hval0
  have hW' := hW
  obtain ⟨p, q, hA0, hV, rfl, hfz, hnd⟩ := hW
  have hA : DataW.TrodAll enc Try.prog W 0 (fun _ => true) true Try.f3.params.toList args.toList ds p := hA0
  rw [Try.params3] at hA hval
  obtain ⟨v0, vs0, d0, ds0, p0, q0, hargs, rfl, rfl, h0, r0⟩ := trodAll_cons hA
  obtain ⟨v1, vs1, d1, ds1, p1, q1, rfl, rfl, rfl, h1, r1⟩ := trodAll_cons r0
  obtain ⟨v2, vs2, d2, ds2, p2, q2, rfl, rfl, rfl, h2, r2⟩ := trodAll_cons r1
  obtain ⟨v3, vs3, d3, ds3, p3, q3, rfl, rfl, rfl, h3, r3⟩ := trodAll_cons r2
  obtain ⟨rfl, rfl, rfl⟩ := trodAll_nil r3
  obtain rfl : args = #[v0, v1, v2, v3] := by cases args; simp_all
  obtain ⟨rfl, rfl⟩ := trodVars_none hV
  have k0 := h0
  have lt0 : ∀ x ∈ p0, x.block < W.heap.size := by obtain ⟨m, hm⟩ := k0; exact DataW.trod_lt m _ _ _ hm
  have k1 := h1
  have lt1 : ∀ x ∈ p1, x.block < W.heap.size := by obtain ⟨m, hm⟩ := k1; exact DataW.trod_lt m _ _ _ hm
  have k2 := h2
  have lt2 : ∀ x ∈ p2, x.block < W.heap.size := by obtain ⟨m, hm⟩ := k2; exact DataW.trod_lt m _ _ _ hm
  have k3 := h3
  have lt3 : ∀ x ∈ p3, x.block < W.heap.size := by obtain ⟨m, hm⟩ := k3; exact DataW.trod_lt m _ _ _ hm
  obtain ⟨a, ca, cs, rfl, hC, l1⟩ := open_cmds (hval 0 22 v0 rfl rfl) h0
  obtain ⟨r, cr, run, rfl, hR, l2, hwr⟩ := open_runs (hval 1 23 v1 rfl rfl) h1
  obtain ⟨nw, cn, nows, rfl, hN, l3, _⟩ := open_nums Try.underlying24 Try.underlying2 Try.cells2 (hval 2 24 v2 rfl rfl) h2
  obtain ⟨ia, ci, ids, rfl, hI, l4, hwi⟩ := open_nums Try.underlying25 Try.underlying3 Try.cells3 (hval 3 25 v3 rfl rfl) h3
  clear hA0 hval0
  refine (walk a r nw ia ca cr cn ci cs run nows ids W hC hR hN hI l1 l2 l3 l4 hwr hwi).mono fun e W' ⟨he, bel⟩ => ?_
  subst he
  exact ⟨_, rfl, _, _, _, [], _, [], hW', trodAll_mk1 (shut_bool Try.underlying4 _), (trodAll_cons_mk (Below.trod laidOut (by kernel_rfl) (of_decide_eq_true (by kernel_rfl)) k0 bel lt0) (trodAll_cons_mk (Below.trod laidOut (by kernel_rfl) (of_decide_eq_true (by kernel_rfl)) k1 bel lt1) (trodAll_cons_mk (Below.trod laidOut (by kernel_rfl) (of_decide_eq_true (by kernel_rfl)) k2 bel lt2) (trodAll_cons_mk (Below.trod laidOut (by kernel_rfl) (of_decide_eq_true (by kernel_rfl)) k3 bel lt3) trodAll_mk0)))), rfl, bel.frame _, fun h => by cases h⟩

theorem over : Rows.fnEndedFirstReportWinsOverScriptRow.holds Try.pinned (OpenSpec.ofChange Rows.fnEndedFirstReportWinsOverScriptSpec) :=
  OpenClaim.holds_of_wide 3 Try.f3 rfl rfl rfl rfl rfl rfl rfl ⟨rfl, rfl, rfl, rfl, rfl⟩ rfl rfl rfl rfl rfl (by kernel_rfl) Try.func3 (by kernel_rfl)
    (of_decide_eq_true (by kernel_rfl)) (by unfold Func.isWrapper; first | (rw [if_pos (by decide +kernel)]; kernel_rfl) | (rw [if_neg (by decide +kernel)]; exact ⟨rfl, rfl⟩))
    (fun os started H enc _ => lifted os started H enc)

/-- THE STATEMENT -/
theorem ended_said : Rows.FnEndedFirstReportWinsOverScriptSaid := over
end Go.Proofs.Qxb6618441a
