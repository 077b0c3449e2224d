/-
  How the arguments lie in memory, and the small functions that only read them: endedEffective, endedLastPos, endedCalled, zzBytes.
-/
import Derived.Test.Qxb6618441aRows
import Derived.Test.Qxb6618441aMem
import Derived.Test.Qxb6618441aPlain
import Derived.BigQuiet
namespace Go.Proofs.Qxb6618441a
open Go.RowKit Mem

structure Cmd where
  r : Int
  d : ByteArray
  a : ByteArray
  s : Int
  e : Int

def Cmd.none : Cmd := ⟨0, ByteArray.empty, ByteArray.empty, 0, 0⟩
def Cmd.cells (c : Cmd) : List Value := [.int .i64 c.r, .string c.d, .string c.a, .int .i64 c.s, .int .i64 c.e]

/-- A slice of commands. -/
def RC (w : World) (a : Option Addr) (len : Nat) (cs : List Cmd) : Prop :=
  cs.length = len ∧ (0 < len → ∃ b off, a = some ⟨b, off, none⟩ ∧ ∀ i, i < len → ∀ j v, (cs.getD i Cmd.none).cells[j]? = some v → w.cell? ⟨b, off + i * 5 + j, none⟩ = some v)
/-- A slice of running entries. -/
def RR (w : World) (a : Option Addr) (len : Nat) (run : List Run) : Prop :=
  run.length = len ∧ (0 < len → ∃ b off, a = some ⟨b, off, none⟩ ∧ ∀ i, i < len → w.cell? ⟨b, off + i * 2, none⟩ = some (.int .i64 (run.getD i (0, 0)).1) ∧ w.cell? ⟨b, off + i * 2 + 1, none⟩ = some (.int .i64 (run.getD i (0, 0)).2))
/-- A slice of 64-bit numbers. -/
def RI (w : World) (a : Option Addr) (len : Nat) (zs : List Int) : Prop :=
  zs.length = len ∧ (0 < len → ∃ b off, a = some ⟨b, off, none⟩ ∧ ∀ i, i < len → w.cell? ⟨b, off + i, none⟩ = some (.int .i64 (zs.getD i 0)))

theorem RC.below {w w' : World} {a : Option Addr} {len : Nat} {cs : List Cmd} (h : RC w a len cs) (hb : Below w.heap.size w w') : RC w' a len cs :=
  ⟨h.1, fun hp => by obtain ⟨b, off, e, hc⟩ := h.2 hp; exact ⟨b, off, e, fun i hi j v hv => cell_later hb (hc i hi j v hv)⟩⟩
theorem RR.below {w w' : World} {a : Option Addr} {len : Nat} {run : List Run} (h : RR w a len run) (hb : Below w.heap.size w w') : RR w' a len run :=
  ⟨h.1, fun hp => by obtain ⟨b, off, e, hc⟩ := h.2 hp; exact ⟨b, off, e, fun i hi => ⟨cell_later hb (hc i hi).1, cell_later hb (hc i hi).2⟩⟩⟩
theorem RI.below {w w' : World} {a : Option Addr} {len : Nat} {zs : List Int} (h : RI w a len zs) (hb : Below w.heap.size w w') : RI w' a len zs :=
  ⟨h.1, fun hp => by obtain ⟨b, off, e, hc⟩ := h.2 hp; exact ⟨b, off, e, fun i hi => cell_later hb (hc i hi)⟩⟩

theorem ret_bool {a b : Bool} (h : a = b) : Ending.returned (.bool a) = .returned (.bool b) := by rw [h]

set_option maxHeartbeats 400000 in
theorem eff_any (a : Option Addr) (cap i : Nat) (run : List Run) (w : World) (h : RR w a run.length run) (hi : i < run.length) (hl : run.length ≤ 4096) :
    Calls Try.prog 5 #[.slice a run.length cap, .int .i64 i] w fun e w' => e = .returned (.bool (eff run i)) ∧ ∃ n, w' = w.drewN n := by
  obtain ⟨-, hr⟩ := h
  obtain ⟨b, off, rfl, hc⟩ := hr (by omega)
  go_enter Try.func5, Try.ntmps5
  go_wp2
  go_loopw [5] (fun j wr => ∃ (k : Nat), k ≤ run.length ∧ i < k ∧ j = .int .i64 k ∧ Hid (∀ j, i < j → j < k → (run.getD j (0, 0)).1 ≠ (run.getD i (0, 0)).1) ∧ Hid (∃ n, wr = w.drewN n)) (fun j _ => run.length - (intOf j).toNat)
  case atStart => exact ⟨i + 1, by omega, by omega, by go_num, fun j h1 h2 => absurd h1 (by omega), 0, rfl⟩
  case round =>
    obtain ⟨k, hk, hik, rfl, HA, hn⟩ := hrel
    by_cases hlt : k < run.length
    · have c1 : wr.cell? ⟨b, off + k * 2, none⟩ = some (.int .i64 (run.getD k (0, 0)).1) := by obtain ⟨n, rfl⟩ := hn.out; exact (hc k hlt).1
      have c2 : wr.cell? ⟨b, off + i * 2, none⟩ = some (.int .i64 (run.getD i (0, 0)).1) := by obtain ⟨n, rfl⟩ := hn.out; exact (hc i hi).1
      obtain ⟨x, hx⟩ : ∃ x, x = (run.getD k (0, 0)).1 := ⟨_, rfl⟩
      obtain ⟨y, hy⟩ : ∃ y, y = (run.getD i (0, 0)).1 := ⟨_, rfl⟩
      rw [← hx] at c1
      rw [← hy] at c2
      have HX : Hid (x = (run.getD k (0, 0)).1) := hx
      have HY : Hid (y = (run.getD i (0, 0)).1) := hy
      clear hx hy hc hr
      go_wp2
      go_quiet (fail)
      go_wp2
      · have hxy : (x == y) = true := by assumption
        go_ret
        exact ⟨ret_bool (eff_not run i k hik hlt (by rw [← HX.out, ← HY.out]; simpa using hxy)).symm, by obtain ⟨n, rfl⟩ := hn.out; exact ⟨n + nq, World.drewN_drewN _ _ _⟩⟩
      · have hxy : (x == y) = false := by assumption
        go_roundw
        case rel =>
          refine ⟨k + 1, by omega, by omega, by go_num, fun j h1 h2 => ?_, by obtain ⟨n, rfl⟩ := hn.out; exact ⟨n + nq, World.drewN_drewN _ _ _⟩⟩
          by_cases e : j = k
          · subst e; rw [← HX.out, ← HY.out]; simpa using hxy
          · exact HA.out j h1 (by omega)
        case measure => simp [intOf]; omega
    · go_wp2
      go_ret
      exact ⟨ret_bool (eff_of run i (fun j h1 h2 => HA.out j h1 (by omega))).symm, hn.out⟩

theorem ret_pair {a b : Int} {x y : Bool} (h : a = b) (h' : x = y) : Ending.returned (.tuple #[.int .i64 a, .bool x]) = .returned (.tuple #[.int .i64 b, .bool y]) := by rw [h, h']

set_option maxHeartbeats 400000 in
theorem last_any (a : Option Addr) (cap : Nat) (id : Int) (run : List Run) (w : World) (h : RR w a run.length run) (hl : run.length ≤ 4096) :
    Calls Try.prog 8 #[.slice a run.length cap, .int .i64 id] w fun e w' => e = .returned (.tuple #[.int .i64 ((lastPos run id).getD 0), .bool (lastPos run id).isSome]) ∧ w' = w := by
  obtain ⟨-, hr⟩ := h
  go_enter Try.func8, Try.ntmps8
  go_wp2
  go_loop [6] (fun j => ∃ (k : Nat), k ≤ run.length ∧ j = .int .i64 ((k : Int) - 1) ∧ Hid (lastPos (run.drop k) id = none)) (fun j => (intOf j + 1).toNat)
  case atStart => exact ⟨run.length, by omega, rfl, by rw [Hid, List.drop_length]; rfl⟩
  case round =>
    obtain ⟨k, hk, rfl, HA⟩ := hrel
    by_cases h0 : 0 < k
    · obtain ⟨i, rfl⟩ : ∃ i, k = i + 1 := ⟨k - 1, by omega⟩
      obtain ⟨b, off, rfl, hc⟩ := hr (by omega)
      obtain ⟨c1, c2⟩ := hc i (by omega)
      have e1 : ((i + 1 : Nat) : Int) - 1 = (i : Int) := by omega
      rw [e1]
      obtain ⟨x, hx⟩ : ∃ x, x = (run.getD i (0, 0)).1 := ⟨_, rfl⟩
      obtain ⟨y, hy⟩ : ∃ y, y = (run.getD i (0, 0)).2 := ⟨_, rfl⟩
      rw [← hx] at c1
      rw [← hy] at c2
      have HX : Hid (x = (run.getD i (0, 0)).1) := hx
      have HY : Hid (y = (run.getD i (0, 0)).2) := hy
      have hh := lastPos_here run i (by omega) id HA.out
      rw [← hx, ← hy] at hh
      have HH : Hid (lastPos (run.drop i) id = if x == id then some y else none) := hh
      clear hx hy hc hr hh e1
      go_wp2
      · have hxy : (x == id) = true := by assumption
        go_ret2
        have := HH.out
        rw [hxy, if_pos rfl] at this
        have := lastPos_drop _ _ _ _ this
        exact ⟨ret_pair (by rw [this]; rfl) (by rw [this]; rfl), rfl⟩
      · have hxy : (x == id) = false := by assumption
        go_round
        case rel =>
          have := HH.out
          rw [hxy] at this
          exact ⟨i, by omega, by go_num, by simpa [Hid] using this⟩
        case measure => simp [intOf]
    · obtain rfl : k = 0 := by omega
      have := HA.out
      rw [List.drop_zero] at this
      have HN : Hid (lastPos run id = none) := this
      clear this
      go_wp2
      go_ret2
      exact ⟨ret_pair (by rw [HN.out]; rfl) (by rw [HN.out]; rfl), rfl⟩

set_option maxHeartbeats 400000 in
theorem called_any (a : Option Addr) (cap len n : Nat) (id : Int) (ids : List Int) (w : World) (h : RI w a len ids) (hn : n ≤ len) (hl : len ≤ 4096) :
    Calls Try.prog 11 #[.slice a len cap, .int .i64 n, .int .i64 id] w fun e w' => e = .returned (.bool (called ids n id)) ∧ w' = w := by
  obtain ⟨rfl, hr⟩ := h
  go_enter Try.func11, Try.ntmps11
  go_wp2
  go_loop [7] (fun j => ∃ (k : Nat), k ≤ n ∧ j = .int .i64 k ∧ Hid (∀ j, j < k → ids.getD j 0 ≠ id)) (fun j => n - (intOf j).toNat)
  case atStart => exact ⟨0, by omega, rfl, fun j hj => absurd hj (by omega)⟩
  case round =>
    obtain ⟨k, hk, rfl, HA⟩ := hrel
    by_cases hlt : k < n
    · obtain ⟨b, off, rfl, hc⟩ := hr (by omega)
      have c1 := hc k (by omega)
      obtain ⟨x, hx⟩ : ∃ x, x = ids.getD k 0 := ⟨_, rfl⟩
      rw [← hx] at c1
      have HX : Hid (x = ids.getD k 0) := hx
      clear hx hc hr
      have hkl : k < ids.length := by omega
      go_wp2
      · have hxy : (x == id) = true := by assumption
        go_ret
        exact ⟨ret_bool (called_of ids n k hlt (by omega) id (by rw [← HX.out]; simpa using hxy)).symm, rfl⟩
      · have hxy : (x == id) = false := by assumption
        go_round
        case rel =>
          refine ⟨k + 1, by omega, by go_num, fun j hj => ?_⟩
          by_cases e : j = k
          · subst e; rw [← HX.out]; simpa using hxy
          · exact HA.out j (by omega)
        case measure => simp [intOf]; omega
    · go_wp2
      go_ret
      exact ⟨ret_bool (called_not ids n id (fun j hj _ => HA.out j (by omega))).symm, rfl⟩
end Go.Proofs.Qxb6618441a
