/-
  zzBytes: it answers something and turns nothing.
-/
import Derived.Test.Qxb6618441aBase
namespace Go.Proofs.Qxb6618441a
set_option linter.unusedVariables false
open Go.RowKit Mem

theorem RC.cell {w : World} {a : Option Addr} {cs : List Cmd} (h : RC w a cs.length cs) {i : Nat} (hi : i < cs.length) : ∃ b off, a = some ⟨b, off, none⟩ ∧
    w.cell? ⟨b, off + i * 5, none⟩ = some (.int .i64 (cs.getD i Cmd.none).r) ∧ w.cell? ⟨b, off + i * 5 + 1, none⟩ = some (.string (cs.getD i Cmd.none).d) ∧ w.cell? ⟨b, off + i * 5 + 2, none⟩ = some (.string (cs.getD i Cmd.none).a) ∧
    w.cell? ⟨b, off + i * 5 + 3, none⟩ = some (.int .i64 (cs.getD i Cmd.none).s) ∧ w.cell? ⟨b, off + i * 5 + 4, none⟩ = some (.int .i64 (cs.getD i Cmd.none).e) := by
  obtain ⟨b, off, e, hc⟩ := h.2 (by omega)
  exact ⟨b, off, e, by simpa using hc i hi 0 _ rfl, hc i hi 1 _ rfl, hc i hi 2 _ rfl, hc i hi 3 _ rfl, hc i hi 4 _ rfl⟩

/-- It hands back a bool. -/
def SomeBool (e : Ending) : Prop := ∃ x, e = .returned (.bool x)

set_option maxRecDepth 100000 in
set_option maxHeartbeats 1000000 in
theorem zz_any (a b c d : Option Addr) (lb lc ld ca cb cc cd : Nat) (cs : List Cmd) (w : World) (h : RC w a cs.length cs) (h1 : cs.length ≤ maxLen) (h2 : lb ≤ maxLen) (h3 : lc ≤ maxLen) (h4 : ld ≤ maxLen) :
    Calls Try.prog 4 #[.slice a cs.length ca, .slice b lb cb, .slice c lc cc, .slice d ld cd] w fun e w' => SomeBool e ∧ w = w' := by
  unfold maxLen at h1 h2 h3 h4
  go_enter Try.func4, Try.ntmps4
  go_wp2
  any_goals (go_ret; exact ⟨⟨_, rfl⟩, rfl⟩)
  go_loop [9, 10] (fun t j => ∃ (k : Nat) (x : Int), k ≤ cs.length ∧ t = .int .i64 x ∧ j = .int .i64 k) (fun _ j => cs.length - (intOf j).toNat)
  case atStart => exact ⟨0, _, by omega, rfl, rfl⟩
  case round =>
    obtain ⟨k, x, hk, rfl, rfl⟩ := hrel
    by_cases hlt : k < cs.length
    · obtain ⟨b', off, rfl, c0, c1, c2, c3, c4⟩ := h.cell hlt
      generalize cs.getD k Cmd.none = c at c0 c1 c2 c3 c4
      clear h c0 c3 c4
      go_wp2
      any_goals (go_ret; exact ⟨⟨_, rfl⟩, rfl⟩)
      go_round
      case rel => exact ⟨k + 1, _, by omega, rfl, by go_num⟩
      case measure => simp [intOf]; omega
    · go_wp2
      all_goals (go_ret; exact ⟨⟨_, rfl⟩, rfl⟩)
end Go.Proofs.Qxb6618441a
