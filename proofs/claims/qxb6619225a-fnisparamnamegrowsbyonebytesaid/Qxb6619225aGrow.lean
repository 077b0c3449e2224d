/-
  FnIsParamNameGrowsByOneByte: the walk.
-/
import Derived.Test.Qxb6619225aName
namespace Go.Proofs.Qxb6619225a
open Go.RowKit Mem

def SomeBit (e : Ending) : Prop := ∃ x, e = .returned (.bool x)
theorem zz10_any (s : ByteArray) (c : Int) (w : World) (hs : s.size ≤ maxLen) :
    Calls Try.prog 10 #[.string s, .int .u8 c] w fun e w' => SomeBit e ∧ w = w' := by
  unfold maxLen at hs
  go_enter Try.func10, Try.ntmps10
  go_wp2
  all_goals (go_ret; exact ⟨⟨_, rfl⟩, rfl⟩)

theorem zzname_any (s : ByteArray) (w : World) (hs : s.size ≤ 1048576) (b : Bool) (hb : pname s.data.toList = b) :
    Calls Try.prog 11 #[.string s] w fun e w' => e = .returned (.bool b) ∧ w = w' := by
  subst hb
  go_enter Try.func11, Try.ntmps11
  go_wp2_with fail
  refine (pname_any s _ hs).mono ?_
  rintro e w' ⟨rfl, rfl⟩
  go_wp2
  go_ret
  exact ⟨rfl, rfl⟩

theorem grow_big (s : ByteArray) (c : Int) (w : World) (hs : s.size ≤ maxLen) (hbig : 65536 < s.size) :
    Calls Try.prog 4 #[.string s, .int .u8 c] w fun e w' => e = .returned (.bool true) ∧ Below w.heap.size w w' := by
  have k1 := hs
  unfold maxLen at k1
  go_enter Try.func4, Try.ntmps4
  go_wp2_with (go_at_call 10; refine (zz10_any s c _ hs).mono ?_; rintro e w' ⟨⟨x, rfl⟩, rfl⟩; cases x)
  all_goals (go_ret; exact ⟨rfl, Below.refl _ _⟩)

theorem Try.info5 : (Try.prog.info? 5).map (fun i => (i.zero, i.size, i.bytes)) = some (some (.int .u8 0), 1, 1) := by kernel_rfl
set_option maxHeartbeats 2000000 in
theorem grow_small (s : ByteArray) (u : UInt8) (w : World) (hs : s.size ≤ 65536) :
    Calls Try.prog 4 #[.string s, .int .u8 (u.toNat : Int)] w fun e w' => e = .returned (.bool true) ∧ Below w.heap.size w w' := by
  have hm : s.size ≤ maxLen := by unfold maxLen; omega
  go_enter Try.func4, Try.ntmps4
  go_wp2_with fail
  refine (zz10_any s _ _ hm).mono ?_
  rintro e w' ⟨⟨x, rfl⟩, rfl⟩
  cases x with
  | false =>
    go_wp2
    go_ret
    exact ⟨rfl, Below.refl _ _⟩
  | true =>
    go_wp2
    have hconv : (convert 26 9 (.slice (some ⟨w.heap.size, 0, none⟩) 1 1)).run Try.prog (w.alloc (Obj.cells #[Value.int IntKind.u8 ↑u.toNat] 5)) = .ok (.string ⟨[u].toArray⟩) (w.alloc (Obj.cells #[Value.int IntKind.u8 ↑u.toNat] 5)) :=
      run_convert_bytes_back _ 26 9 5 ⟨w.heap.size, 0, none⟩ 1 [u] Try.underlying26 Try.underlying5 Try.underlying9 (fun j hj => by
        obtain rfl : j = 0 := by simpa using hj
        exact World.cell?_alloc_mark w _ 5 _ 0)
    rw [hconv]
    clear hconv
    have hb1 : Below w.heap.size w (w.alloc (Obj.cells #[Value.int IntKind.u8 ↑u.toNat] 5)) := (Below.refl _ _).alloc (Nat.le_refl _) _
    generalize w.alloc (Obj.cells #[Value.int IntKind.u8 ↑u.toNat] 5) = w1 at hb1 ⊢
    have p0 : pname (⟨#[]⟩ : ByteArray).data.toList = false := rfl
    have p1 : pname (⟨[u].toArray⟩ : ByteArray).data.toList = letB (u.toNat : Int) := pname_one u
    obtain ⟨one, hone⟩ : ∃ one : ByteArray, one = ⟨[u].toArray⟩ := ⟨_, rfl⟩
    rw [← hone] at p1 ⊢
    have h1s : one.size = 1 := by rw [hone]; rfl
    have P0 : Hid (pname (⟨#[]⟩ : ByteArray).data.toList = false) := p0
    obtain ⟨L, hL⟩ : ∃ L, L = letB (u.toNat : Int) := ⟨_, rfl⟩
    obtain ⟨T, hT⟩ : ∃ T, T = tailB (u.toNat : Int) := ⟨_, rfl⟩
    have P1 : Hid (pname one.data.toList = L) := by rw [hL]; exact p1
    have HL : Hid (L = letB (u.toNat : Int)) := hL
    have HT : Hid (T = tailB (u.toNat : Int)) := hT
    have HO : Hid (one = ⟨[u].toArray⟩) := hone
    clear hone p0 p1 hL hT
    go_wp2_with fail
    refine (zzname_any _ _ (by decide) false P0.out).mono ?_
    rintro e w' ⟨rfl, rfl⟩
    go_wp2_with fail
    refine (zzname_any one _ (by omega) L P1.out).mono ?_
    rintro e w' ⟨rfl, rfl⟩
    go_wp2_with fail
    refine (letter12 _ _).mono ?_
    rintro e w' ⟨rfl, rfl⟩
    rw [← HL.out]
    by_cases h0 : s.size = 0
    · have hem : s.toList.isEmpty = true := by
        rw [ByteArray.toList_eq]
        have h := Array.length_toList (xs := s.data)
        have h' : s.data.size = 0 := h0
        rw [List.isEmpty_iff_length_eq_zero, h, h']
      cases L
      all_goals
        go_wp2
        go_ret
        exact ⟨rfl, hb1⟩
    · have hem : s.toList.isEmpty = false := by
        rw [ByteArray.toList_eq]
        cases hq : s.data.toList with
        | nil => exact absurd (by have h := Array.length_toList (xs := s.data); rw [hq] at h; exact h.symm) h0
        | cons => rfl
      obtain ⟨N, hN⟩ : ∃ N, N = pname s.data.toList := ⟨_, rfl⟩
      have P2 : Hid (pname s.data.toList = N) := hN.symm
      have P3 : pname (s ++ one).data.toList = (N && T) := by
        rw [hN, HT.out, HO.out, ByteArray.data_append, Array.toList_append]
        refine pname_grow _ u ?_
        intro hq
        exact absurd (by have h := Array.length_toList (xs := s.data); rw [hq] at h; exact h.symm) h0
      have P4 : Hid (pname (s ++ one).data.toList = (N && T)) := P3
      have hsum : (s ++ one).size = s.size + one.size := ByteArray.size_append
      clear hN P3
      cases L
      all_goals
        go_wp2_with fail
        refine (zzname_any (s ++ one) _ (by omega) (N && T) P4.out).mono ?_
        rintro e w' ⟨rfl, rfl⟩
        go_wp2_with fail
        refine (zzname_any s _ (by omega) N P2.out).mono ?_
        rintro e w' ⟨rfl, rfl⟩
        cases N
        · go_wp2
          go_ret
          exact ⟨by cases T <;> rfl, hb1⟩
        · go_wp2_with fail
          refine (tail13 _ _).mono ?_
          rintro e w' ⟨rfl, rfl⟩
          rw [← HT.out]
          cases T
          all_goals
            go_wp2
            go_ret
            exact ⟨rfl, hb1⟩
end Go.Proofs.Qxb6619225a
