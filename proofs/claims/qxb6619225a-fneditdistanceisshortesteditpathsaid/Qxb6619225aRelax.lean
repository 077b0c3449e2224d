/-
  relaxEdge: the walk.
-/
import Derived.Test.Qxb6619225aOne
import Derived.Test.Qxb6619225aGrid
namespace Go.Proofs.Qxb6619225a
set_option linter.unusedVariables false
open Go.RowKit Mem

def V64 (zs : List Int) : List Value := zs.map (Value.int .i64)
theorem V64_length (zs : List Int) : (V64 zs).length = zs.length := by simp [V64]
theorem V64_get (zs : List Int) (k : Nat) (h : k < zs.length) : (V64 zs)[k]? = some (.int .i64 (zs.getD k 0)) := by
  simp [V64, List.getElem?_eq_getElem h]
theorem V64_set (zs : List Int) (k : Nat) (x : Int) : (V64 zs).set k (.int .i64 x) = V64 (zs.set k x) := by simp [V64, List.map_set]

/-- The three rows of the search. -/
structure Three (w : World) (gq gd gn : Nat) (ql dl : List Int) (nl : List Value) : Prop where
  rq : Arr w gq 3 (V64 ql)
  rd : Arr w gd 3 (V64 dl)
  rn : Arr w gn 4 nl
  qd : gq ≠ gd
  qn : gq ≠ gn
  dn : gd ≠ gn

theorem Three.drewN {w : World} {gq gd gn : Nat} {ql dl : List Int} {nl : List Value} (h : Three w gq gd gn ql dl nl) (n : Nat) : Three (w.drewN n) gq gd gn ql dl nl := ⟨h.rq.drewN n, h.rd.drewN n, h.rn.drewN n, h.qd, h.qn, h.dn⟩
theorem Three.setD {w : World} {gq gd gn : Nat} {ql dl : List Int} {nl : List Value} (h : Three w gq gd gn ql dl nl) (k : Nat) (x : Int) : Three (w.setCell ⟨gd, k, none⟩ (.int .i64 x)) gq gd gn ql (dl.set k x) nl :=
  ⟨h.rq.other h.qd _, by have := h.rd.set k (.int .i64 x); rw [V64_set] at this; exact this, h.rn.other (Ne.symm h.dn) _, h.qd, h.qn, h.dn⟩
theorem Three.setQ {w : World} {gq gd gn : Nat} {ql dl : List Int} {nl : List Value} (h : Three w gq gd gn ql dl nl) (k : Nat) (x : Int) : Three (w.setCell ⟨gq, k, none⟩ (.int .i64 x)) gq gd gn (ql.set k x) dl nl :=
  ⟨by have := h.rq.set k (.int .i64 x); rw [V64_set] at this; exact this, h.rd.other (Ne.symm h.qd) _, h.rn.other (Ne.symm h.qn) _, h.qd, h.qn, h.dn⟩
theorem Three.setN {w : World} {gq gd gn : Nat} {ql dl : List Int} {nl : List Value} (h : Three w gq gd gn ql dl nl) (k : Nat) (x : Value) : Three (w.setCell ⟨gn, k, none⟩ x) gq gd gn ql dl (nl.set k x) :=
  ⟨h.rq.other h.qn _, h.rd.other h.dn _, h.rn.set k _, h.qd, h.qn, h.dn⟩

def relDl (dl : List Int) (u : Nat) (nd : Int) : List Int := if nd < dl.getD u 0 then dl.set u nd else dl
def relQl (dl ql : List Int) (head tail u : Nat) (nd : Int) (free : Bool) : List Int := if nd < dl.getD u 0 then (if free then ql.set (head - 1) u else ql.set tail u) else ql
def relHead (dl : List Int) (head u : Nat) (nd : Int) (free : Bool) : Nat := if nd < dl.getD u 0 then (if free then head - 1 else head) else head
def relTail (dl : List Int) (tail u : Nat) (nd : Int) (free : Bool) : Nat := if nd < dl.getD u 0 then (if free then tail else tail + 1) else tail

set_option maxHeartbeats 1000000 in
theorem relax_any (gq gd gn : Nat) (ql dl : List Int) (nl : List Value) (head tail u : Nat) (nd : Int) (free : Bool) (w : World) (B : Nat) (h : Three w gq gd gn ql dl nl) (hB : B ≤ gq ∧ B ≤ gd)
    (hu : u < dl.length) (hh : 0 < head) (hhq : head < ql.length) (ht : tail < ql.length) (hql : ql.length ≤ 1000000) (hdl : dl.length ≤ 1000000) :
    Calls Try.prog 22 #[.slice (some ⟨gq, 0, none⟩) ql.length ql.length, .slice (some ⟨gd, 0, none⟩) dl.length dl.length, .int .i64 head, .int .i64 tail, .int .i64 u, .int .i64 nd, .bool free] w
      fun e w' => e = .returned (.tuple #[.int .i64 (relHead dl head u nd free : Nat), .int .i64 (relTail dl tail u nd free : Nat)]) ∧ Three w' gq gd gn (relQl dl ql head tail u nd free) (relDl dl u nd) nl ∧ Below B w w' := by
  obtain ⟨X, hX⟩ : ∃ X, X = dl.getD u 0 := ⟨_, rfl⟩
  have hc : w.cell? ⟨gd, u, none⟩ = some (.int .i64 X) := by rw [h.rd.cell, V64_get _ _ hu, hX]
  have hf := h.rd.frozen u
  have hui : (u : Int) < (dl.length : Int) := by omega
  unfold relHead relTail relQl relDl
  rw [← hX]
  clear hX
  by_cases hlt : nd < X
  · have hd : decide (X ≤ nd) = false := by simp; omega
    have hd' : ¬ X ≤ nd := by omega
    rw [if_pos hlt, if_pos hlt, if_pos hlt, if_pos hlt]
    cases free with
    | true =>
      have hq : (w.setCell ⟨gd, u, none⟩ (.int .i64 nd)).cell? ⟨gq, head - 1, none⟩ = some (.int .i64 (ql.getD (head - 1) 0)) := by rw [(h.setD u nd).rq.cell, V64_get _ _ (by omega)]
      have hfq := (h.setD u nd).rq.frozen (head - 1)
      have e1 : IntKind.i64.wrap ((head : Int) - 1) = ((head - 1 : Nat) : Int) := by rw [IntKind.wrap_i64]; omega
      obtain ⟨hm, hhm⟩ : ∃ hm, hm = head - 1 := ⟨_, rfl⟩
      have hmi : (hm : Int) < (ql.length : Int) := by omega
      rw [← hhm] at hq hfq e1
      have H1 : Hid (hm = head - 1) := hhm
      clear hhm
      go_enter Try.func22, Try.ntmps22
      go_wp2
      go_ret2
      refine ⟨?_, ?_, ?_⟩
      · show _ = Ending.returned (.tuple #[.int .i64 ((head - 1 : Nat) : Int), .int .i64 (tail : Nat)])
        rw [← H1.out]; rfl
      · show Three _ gq gd gn (ql.set (head - 1) u) (dl.set u nd) nl
        rw [← H1.out]; exact (h.setD u nd).setQ hm u
      · exact ((Below.refl _ _).setCell (by simpa using hB.2) _).setCell (by simpa using hB.1) _
    | false =>
      have hq : (w.setCell ⟨gd, u, none⟩ (.int .i64 nd)).cell? ⟨gq, tail, none⟩ = some (.int .i64 (ql.getD tail 0)) := by rw [(h.setD u nd).rq.cell, V64_get _ _ ht]
      have hfq := (h.setD u nd).rq.frozen tail
      have hti : (tail : Int) < (ql.length : Int) := by omega
      have e1 : IntKind.i64.wrap ((tail : Int) + 1) = ((tail + 1 : Nat) : Int) := by rw [IntKind.wrap_i64]; omega
      go_enter Try.func22, Try.ntmps22
      go_wp2
      go_ret2
      refine ⟨?_, ?_, ?_⟩
      · rfl
      · exact (h.setD u nd).setQ tail u
      · exact ((Below.refl _ _).setCell (by simpa using hB.2) _).setCell (by simpa using hB.1) _
  · have hd : decide (X ≤ nd) = true := by simp; omega
    have hd' : X ≤ nd := by omega
    rw [if_neg hlt, if_neg hlt, if_neg hlt, if_neg hlt]
    go_enter Try.func22, Try.ntmps22
    go_wp2
    go_ret2
    exact ⟨rfl, h, Below.refl _ _⟩
end Go.Proofs.Qxb6619225a
