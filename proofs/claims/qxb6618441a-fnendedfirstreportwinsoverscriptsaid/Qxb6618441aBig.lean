/-
  The law's own walk where a length passes 4096.
-/
import Derived.Test.Qxb6618441aTrace
import Derived.Deep.CutBlock
import Derived.Deep.DeepCutAuto
import Derived.Deep.MidRow
import Derived.StillTailTactics
namespace Go.Proofs.Qxb6618441a
set_option linter.unusedVariables false
open Go.RowKit Mem

theorem RI.cell {w : World} {a : Option Addr} {zs : List Int} (h : RI w a zs.length zs) {i : Nat} (hi : i < zs.length) : ∃ b off, a = some ⟨b, off, none⟩ ∧ w.cell? ⟨b, off + i, none⟩ = some (.int .i64 (zs.getD i 0)) := by
  obtain ⟨b, off, e, hc⟩ := h.2 (by omega)
  exact ⟨b, off, e, hc i hi⟩
theorem RR.cell {w : World} {a : Option Addr} {run : List Run} (h : RR w a run.length run) {i : Nat} (hi : i < run.length) : ∃ b off, a = some ⟨b, off, none⟩ ∧
    w.cell? ⟨b, off + i * 2, none⟩ = some (.int .i64 (run.getD i (0, 0)).1) ∧ w.cell? ⟨b, off + i * 2 + 1, none⟩ = some (.int .i64 (run.getD i (0, 0)).2) := by
  obtain ⟨b, off, e, hc⟩ := h.2 (by omega)
  exact ⟨b, off, e, (hc i hi).1, (hc i hi).2⟩

theorem World.rangeAt_below {w w' : World} {b o : Nat} {cs : List Value} (h : w.rangeAt b o cs) (hb : Below w.heap.size w w') : w'.rangeAt b o cs := fun j v hv => cell_later hb (h j v hv)

theorem below_drewN' {B : Nat} {a w : World} (h : Below B a w) (n : Nat) : Below B a (w.drewN n) := below_drewN h n

set_option maxRecDepth 100000 in
set_option maxHeartbeats 4000000 in
theorem law_big (a r nw ia : Option Addr) (lr ln li ca cr cn ci : Nat) (cs : List Cmd) (w : World) (hC : RC w a cs.length cs) (h1 : cs.length ≤ maxLen) (h2 : lr ≤ maxLen) (h3 : ln ≤ maxLen) (h4 : li ≤ maxLen)
    (hbig : 4096 < cs.length ∨ 4096 < lr ∨ 4096 < ln ∨ 4096 < li) :
    Calls Try.prog 3 #[.slice a cs.length ca, .slice r lr cr, .slice nw ln cn, .slice ia li ci] w fun e w' => e = .returned (.bool true) ∧ Below w.heap.size w w' := by
  have k1 := h1; have k2 := h2; have k3 := h3; have k4 := h4
  unfold maxLen at k1 k2 k3 k4
  go_enter Try.func3, Try.ntmps3
  go_upto_region 5 with (go_at_call 4; refine (zz_any a r nw ia lr ln li ca cr cn ci cs _ hC h1 h2 h3 h4).mono ?_; rintro e w' ⟨⟨x, rfl⟩, rfl⟩)
  all_goals first | (go_ret; exact ⟨rfl, Below.refl _ _⟩) | (exfalso; omega)

end Go.Proofs.Qxb6618441a
