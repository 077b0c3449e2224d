/-
  The four arguments opened: what their readings say of memory.
-/
import Derived.Test.Qxb6618441aTrace
import Derived.ProofKit
import Derived.OpenShut
import Derived.ShutString
import Derived.ChangeOld
import Derived.Below
import Derived.Deep.Slices
namespace Go.Proofs.Qxb6618441a
set_option linter.unusedVariables false
open Go.ChangeShapes Go.WideShapes Go.ChangeAt Go.RowKit Go.Deep

theorem own : ownKnob Try.prog.godebug = none := by kernel_rfl
theorem laidOut : laidOutB Try.prog = true := by kernel_rfl
theorem Try.cells28 : Try.prog.cellsOf 28 = 5 := by kernel_rfl
theorem Try.cells31 : Try.prog.cellsOf 31 = 2 := by kernel_rfl
theorem Try.cells9 : Try.prog.cellsOf 9 = 1 := by kernel_rfl
theorem Try.cells3 : Try.prog.cellsOf 3 = 1 := by kernel_rfl
theorem Try.cells2 : Try.prog.cellsOf 2 = 1 := by kernel_rfl

section
variable {H : Type} {enc : TypeId × Value → H} {W : World} {spare : Nat → Bool} {held : Bool}

theorem one_cell {cs : List Value} {k : Nat} (h : k < cs.length) : (cs.drop k).take 1 = [cs[k]] := by
  rw [List.drop_eq_getElem_cons h]; rfl

theorem cmd_of {fuel : Nat} {cs : List Value} {x : DataW H × List MemPlace} (h : DataW.trod enc Try.prog W 0 spare held fuel 28 cs = some x) : ∃ c : Cmd, cs = c.cells := by
  obtain ⟨xs, n, _, _, hl, hx, hf⟩ := DataW.trod_struct Try.underlying28 h
  rw [Try.cells28] at hl
  obtain ⟨v0, v1, v2, v3, v4, rfl⟩ : ∃ v0 v1 v2 v3 v4, cs = [v0, v1, v2, v3, v4] := by
    match cs, hl with
    | [v0, v1, v2, v3, v4], _ => exact ⟨_, _, _, _, _, rfl⟩
  have get : ∀ i, i < xs.length → ∃ y, xs[i]? = some y := fun i hi => ⟨_, List.getElem?_eq_getElem hi⟩
  have hxl : xs.length = 5 := hx
  obtain ⟨y0, e0⟩ := get 0 (by omega)
  obtain ⟨y1, e1⟩ := get 1 (by omega)
  obtain ⟨y2, e2⟩ := get 2 (by omega)
  obtain ⟨y3, e3⟩ := get 3 (by omega)
  obtain ⟨y4, e4⟩ := get 4 (by omega)
  have f0 : DataW.trod enc Try.prog W 0 spare held n 3 (([v0, v1, v2, v3, v4].drop 0).take (Try.prog.cellsOf 3)) = xs[0]? := hf 0 _ rfl
  have f1 : DataW.trod enc Try.prog W 0 spare held n 9 (([v0, v1, v2, v3, v4].drop 1).take (Try.prog.cellsOf 9)) = xs[1]? := hf 1 _ rfl
  have f2 : DataW.trod enc Try.prog W 0 spare held n 9 (([v0, v1, v2, v3, v4].drop 2).take (Try.prog.cellsOf 9)) = xs[2]? := hf 2 _ rfl
  have f3 : DataW.trod enc Try.prog W 0 spare held n 2 (([v0, v1, v2, v3, v4].drop 3).take (Try.prog.cellsOf 2)) = xs[3]? := hf 3 _ rfl
  have f4 : DataW.trod enc Try.prog W 0 spare held n 2 (([v0, v1, v2, v3, v4].drop 4).take (Try.prog.cellsOf 2)) = xs[4]? := hf 4 _ rfl
  rw [e0] at f0
  rw [e1] at f1
  rw [e2] at f2
  rw [e3] at f3
  rw [e4] at f4
  simp only [Try.cells3, Try.cells9, Try.cells2, List.drop_zero, List.drop_succ_cons, List.take_succ_cons, List.take_zero] at f0 f1 f2 f3 f4
  obtain ⟨r, q0, _, _⟩ := DataW.trod_int Try.underlying3 f0
  obtain ⟨d, q1, _, _⟩ := DataW.trod_string Try.underlying9 f1
  obtain ⟨a, q2, _, _⟩ := DataW.trod_string Try.underlying9 f2
  obtain ⟨s, q3, _, _⟩ := DataW.trod_int Try.underlying2 f3
  obtain ⟨e, q4, _, _⟩ := DataW.trod_int Try.underlying2 f4
  simp at q0 q1 q2 q3 q4
  subst q0 q1 q2 q3 q4
  exact ⟨⟨r, d, a, s, e⟩, rfl⟩

theorem run_of {fuel : Nat} {cs : List Value} {x : DataW H × List MemPlace} (h : DataW.trod enc Try.prog W 0 spare held fuel 31 cs = some x) : ∃ q : Run, cs = [.int .i64 q.1, .int .i64 q.2] ∧ W64 q.1 ∧ W64 q.2 := by
  obtain ⟨xs, n, _, _, hl, hx, hf⟩ := DataW.trod_struct Try.underlying31 h
  rw [Try.cells31] at hl
  obtain ⟨v0, v1, rfl⟩ : ∃ v0 v1, cs = [v0, v1] := by
    match cs, hl with
    | [v0, v1], _ => exact ⟨_, _, rfl⟩
  have get : ∀ i, i < xs.length → ∃ y, xs[i]? = some y := fun i hi => ⟨_, List.getElem?_eq_getElem hi⟩
  have hxl : xs.length = 2 := hx
  obtain ⟨y0, e0⟩ := get 0 (by omega)
  obtain ⟨y1, e1⟩ := get 1 (by omega)
  have f0 : DataW.trod enc Try.prog W 0 spare held n 3 (([v0, v1].drop 0).take (Try.prog.cellsOf 3)) = xs[0]? := hf 0 _ rfl
  have f1 : DataW.trod enc Try.prog W 0 spare held n 3 (([v0, v1].drop 1).take (Try.prog.cellsOf 3)) = xs[1]? := hf 1 _ rfl
  rw [e0] at f0
  rw [e1] at f1
  simp only [Try.cells3, List.drop_zero, List.drop_succ_cons, List.take_succ_cons, List.take_zero] at f0 f1
  obtain ⟨r, q0, _, w0⟩ := DataW.trod_int Try.underlying3 f0
  obtain ⟨p, q1, _, w1⟩ := DataW.trod_int Try.underlying3 f1
  simp at q0 q1
  subst q0 q1
  exact ⟨(r, p), rfl, w0, w1⟩

theorem spot_none {W : World} {x : Addr} {v : Value} (h : W.cell? (x.add 0) = some v) : x.spot = none := by
  have := World.cell?_spot h
  simpa [Addr.add] using this

theorem cells_at {W : World} {x : Addr} {k n : Nat} {cs : List Value} (hx : x.spot = none) (h : W.cells? 0 (x.add k) n = some cs) : ∀ j v, cs[j]? = some v → W.cell? ⟨x.block, x.off + k + j, none⟩ = some v := by
  intro j v hv
  obtain ⟨_, hl, hc⟩ := World.cells?_some h
  have hj : j < n := by rw [← hl]; exact (List.getElem?_eq_some_iff.1 hv).1
  have := hc j hj
  obtain ⟨b, off, spot⟩ := x
  simp only at hx
  subst hx
  rw [add_plain, add_plain] at this
  rw [this, hv]

theorem open_cmds {r : Reach} {b0 : Nat} {v : Value} {d : DataW H} {p : List MemPlace} (hv : Value.okWide Try.prog W r b0 22 v) (h : DataW.Trod enc Try.prog W 0 (fun _ => true) held 22 v d p) :
    ∃ a cap cs, v = .slice a (List.length cs) cap ∧ RC W a cs.length cs ∧ cs.length ≤ maxLen := by
  obtain ⟨a, len, cap, rfl⟩ := okWide_slice Try.underlying22 hv
  obtain ⟨fuel, hf⟩ := h
  rcases open_slice Try.underlying22 hf with ⟨hcs, _⟩ | ⟨x, l, c, m, n, D, Pl, hcs, _, hl, hm, hmm, _, hx⟩
  · simp [Value.cells] at hcs
    obtain ⟨rfl, rfl, rfl⟩ := hcs
    exact ⟨none, 0, [], rfl, ⟨rfl, fun h => absurd h (by simp)⟩, Nat.zero_le _⟩
  · simp [Value.cells] at hcs
    obtain ⟨rfl, rfl, rfl⟩ := hcs
    simp only [if_true] at hmm
    rw [Try.cells28] at hx
    have hx' : ∀ i, i < len → ∃ c : Cmd, W.cells? 0 (x.add (i * 5)) 5 = some c.cells := fun i hi => by
      obtain ⟨cs', q1, q2⟩ := hx i (by omega)
      obtain ⟨c, rfl⟩ := cmd_of q2
      exact ⟨c, q1⟩
    let _ : Inhabited Cmd := ⟨Cmd.none⟩
    obtain ⟨V, hV⟩ := choose_lt hx'
    have hlen : ((List.range len).map V).length = len := by simp
    refine ⟨some x, cap, (List.range len).map V, by rw [hlen], ⟨rfl, fun h0 => ?_⟩, by rw [hlen]; omega⟩
    rw [hlen] at h0 ⊢
    have hspot : x.spot = none := by
      obtain ⟨_, _, hc⟩ := World.cells?_some (hV 0 h0)
      have := hc 0 (by omega)
      rw [Nat.zero_mul] at this
      have h2 : x.add 0 = x := by cases x; simp [Addr.add]
      rw [h2] at this
      exact spot_none (this.trans (show _ = some (Value.int .i64 (V 0).r) from rfl))
    refine ⟨x.block, x.off, ?_, fun i hi j v hjv => ?_⟩
    · obtain ⟨b, off, spot⟩ := x
      simp only at hspot
      subst hspot
      rfl
    · have e : (((List.range len).map V).getD i Cmd.none) = V i := by simp [List.getD_eq_getElem?_getD, hi]
      rw [e] at hjv
      exact cells_at hspot (hV i hi) j v hjv

theorem open_runs {r : Reach} {b0 : Nat} {v : Value} {d : DataW H} {p : List MemPlace} (hv : Value.okWide Try.prog W r b0 23 v) (h : DataW.Trod enc Try.prog W 0 (fun _ => true) held 23 v d p) :
    ∃ a cap run, v = .slice a (List.length run) cap ∧ RR W a run.length run ∧ run.length ≤ maxLen ∧ ∀ i, W64 (run.getD i (0, 0)).1 ∧ W64 (run.getD i (0, 0)).2 := by
  obtain ⟨a, len, cap, rfl⟩ := okWide_slice Try.underlying23 hv
  obtain ⟨fuel, hf⟩ := h
  rcases open_slice Try.underlying23 hf with ⟨hcs, _⟩ | ⟨x, l, c, m, n, D, Pl, hcs, _, hl, hm, hmm, _, hx⟩
  · simp [Value.cells] at hcs
    obtain ⟨rfl, rfl, rfl⟩ := hcs
    exact ⟨none, 0, [], rfl, ⟨rfl, fun h => absurd h (by simp)⟩, Nat.zero_le _, fun i => by simp [W64]; decide⟩
  · simp [Value.cells] at hcs
    obtain ⟨rfl, rfl, rfl⟩ := hcs
    simp only [if_true] at hmm
    rw [Try.cells31] at hx
    have hx' : ∀ i, i < len → ∃ q : Run, W.cells? 0 (x.add (i * 2)) 2 = some [.int .i64 q.1, .int .i64 q.2] ∧ W64 q.1 ∧ W64 q.2 := fun i hi => by
      obtain ⟨cs', q1, q2⟩ := hx i (by omega)
      obtain ⟨c, rfl, w0, w1⟩ := run_of q2
      exact ⟨c, q1, w0, w1⟩
    obtain ⟨V, hV⟩ := choose_lt hx'
    have hlen : ((List.range len).map V).length = len := by simp
    have hget : ∀ i, i < len → ((List.range len).map V).getD i (0, 0) = V i := fun i hi => by simp [List.getD_eq_getElem?_getD, hi]
    refine ⟨some x, cap, (List.range len).map V, by rw [hlen], ⟨rfl, fun h0 => ?_⟩, by rw [hlen]; omega, fun i => ?_⟩
    · rw [hlen] at h0 ⊢
      have hspot : x.spot = none := by
        obtain ⟨_, _, hc⟩ := World.cells?_some (hV 0 h0).1
        have := hc 0 (by omega)
        rw [Nat.zero_mul] at this
        have h2 : x.add 0 = x := by cases x; simp [Addr.add]
        rw [h2] at this
        exact spot_none (this.trans (show _ = some (Value.int .i64 (V 0).1) from rfl))
      refine ⟨x.block, x.off, ?_, fun i hi => ?_⟩
      · obtain ⟨b, off, spot⟩ := x
        simp only at hspot
        subst hspot
        rfl
      · rw [hget i hi]
        have := cells_at hspot (hV i hi).1
        exact ⟨this 0 _ rfl, this 1 _ rfl⟩
    · by_cases hi : i < len
      · rw [hget i hi]; exact (hV i hi).2
      · have : ((List.range len).map V).getD i (0, 0) = (0, 0) := by
          rw [List.getD_eq_getElem?_getD, List.getElem?_eq_none (by rw [hlen]; omega)]; rfl
        rw [this]
        exact ⟨show (Lit.int .i64 0).wf = true by decide, show (Lit.int .i64 0).wf = true by decide⟩

theorem open_nums {t e : TypeId} (ht : Try.prog.underlying t = some (.slice e)) (he : Try.prog.underlying e = some (.int .i64)) (hce : Try.prog.cellsOf e = 1) {r : Reach} {b0 : Nat} {v : Value} {d : DataW H} {p : List MemPlace}
    (hv : Value.okWide Try.prog W r b0 t v) (h : DataW.Trod enc Try.prog W 0 (fun _ => true) held t v d p) :
    ∃ a cap zs, v = .slice a (List.length zs) cap ∧ RI W a zs.length zs ∧ zs.length ≤ maxLen ∧ ∀ i, W64 (zs.getD i 0) := by
  obtain ⟨a, len, cap, rfl⟩ := okWide_slice ht hv
  obtain ⟨fuel, hf⟩ := h
  rcases open_ints ht he hce hf with ⟨hcs, _⟩ | ⟨x, l, c, zs, hcs, _, hl, hm, hz, _, hcell, hwz⟩
  · simp [Value.cells] at hcs
    obtain ⟨rfl, rfl, rfl⟩ := hcs
    exact ⟨none, 0, [], rfl, ⟨rfl, fun h => absurd h (by simp)⟩, Nat.zero_le _, fun i => by simp [W64]; decide⟩
  · simp [Value.cells] at hcs
    obtain ⟨rfl, rfl, rfl⟩ := hcs
    simp only [if_true] at hz
    have hlen : (zs.take len).length = len := by simp; omega
    refine ⟨some x, cap, zs.take len, by rw [hlen], ⟨rfl, fun h0 => ?_⟩, by rw [hlen]; omega, fun i => ?_⟩
    · rw [hlen] at h0 ⊢
      have hspot : x.spot = none := spot_none (hcell 0 (by omega))
      refine ⟨x.block, x.off, ?_, fun i hi => ?_⟩
      · obtain ⟨b, off, spot⟩ := x
        simp only at hspot
        subst hspot
        rfl
      · have := hcell i (by omega)
        obtain ⟨b, off, spot⟩ := x
        simp only at hspot
        subst hspot
        rw [add_plain] at this
        rw [this]
        simp [hi]
    · by_cases hi : i < len
      · have hi' : i < zs.length := by omega
        have : (zs.take len).getD i 0 = zs[i] := by simp [List.getD_eq_getElem?_getD, hi, hi']
        rw [this]
        exact hwz _ (List.getElem_mem hi')
      · have : (zs.take len).getD i 0 = 0 := by
          rw [List.getD_eq_getElem?_getD, List.getElem?_eq_none (by rw [hlen]; omega)]; rfl
        rw [this]
        show (Lit.int .i64 0).wf = true
        decide
end
end Go.Proofs.Qxb6618441a
