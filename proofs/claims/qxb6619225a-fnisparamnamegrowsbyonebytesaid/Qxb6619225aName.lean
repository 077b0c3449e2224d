/-
  isParamName: the walk.
-/
import Derived.Test.Qxb6619225aParam
import Derived.Deep.CutBlock
import Derived.Deep.DeepCutAuto
namespace Go.Proofs.Qxb6619225a
open Go.RowKit Mem

def bt (s : ByteArray) (i : Nat) : Int := ((s.data.toList.getD i 0).toNat : Int)
def pname : List UInt8 → Bool
  | [] => false
  | c :: t => letB (c.toNat : Int) && t.all fun c => tailB (c.toNat : Int)

theorem pname_size0 {s : ByteArray} (h : s.size = 0) : pname s.data.toList = false := by
  have : s.data.toList = [] := by
    apply List.eq_nil_of_length_eq_zero
    rw [Array.length_toList]; exact h
  rw [this]; rfl
theorem pname_head {s : ByteArray} (h : letB (bt s 0) = false) : pname s.data.toList = false := by
  unfold bt at h
  cases hl : s.data.toList with
  | nil => rfl
  | cons c t => rw [hl] at h; simp [pname]; intro h'; simp [h'] at h
theorem pname_bad {s : ByteArray} (j : Nat) (h1 : 1 ≤ j) (hj : j < s.size) (h : tailB (bt s j) = false) : pname s.data.toList = false := by
  unfold bt at h
  have hs : s.data.toList.length = s.size := Array.length_toList
  cases hl : s.data.toList with
  | nil => rfl
  | cons c t =>
    rw [hl] at h hs
    simp only [List.length_cons] at hs
    simp only [pname, Bool.and_eq_false_iff, List.all_eq_false]
    right
    refine ⟨t.getD (j - 1) 0, ?_, ?_⟩
    · rw [List.getD_eq_getElem?_getD, List.getElem?_eq_getElem (by omega)]
      simp
    · obtain ⟨k, rfl⟩ : ∃ k, j = k + 1 := ⟨j - 1, by omega⟩
      simp only [List.getD_cons_succ] at h
      simp only [Nat.add_sub_cancel, h]
      simp
theorem pname_good {s : ByteArray} (h0 : s.size ≠ 0) (hl0 : letB (bt s 0) = true) (h : ∀ j, 1 ≤ j → j < s.size → tailB (bt s j) = true) : pname s.data.toList = true := by
  unfold bt at h hl0
  have hs : s.data.toList.length = s.size := Array.length_toList
  cases hl : s.data.toList with
  | nil => rw [hl] at hs; simp at hs; omega
  | cons c t =>
    rw [hl] at h hs hl0
    simp only [List.length_cons] at hs
    simp only [pname, Bool.and_eq_true, List.all_eq_true]
    refine ⟨by simpa using hl0, fun x hx => ?_⟩
    obtain ⟨k, hk, rfl⟩ := List.getElem_of_mem hx
    have := h (k + 1) (by omega) (by omega)
    simpa [List.getElem?_eq_getElem hk] using this
theorem pname_one (c : UInt8) : pname [c] = letB (c.toNat : Int) := by simp [pname]
theorem pname_grow (l : List UInt8) (c : UInt8) (h : l ≠ []) : pname (l ++ [c]) = (pname l && tailB (c.toNat : Int)) := by
  cases l with
  | nil => exact absurd rfl h
  | cons d t => simp [pname, Bool.and_assoc]

theorem bt_get (s : ByteArray) (i : Nat) : ((s.data.toList.getD i 0).toNat : Int) = bt s i := rfl

theorem bt_elem (s : ByteArray) (i : Nat) (h : i < s.size) : (((s[i]'h).toNat : Nat) : Int) = bt s i := by
  have h' : i < s.data.toList.length := by rw [Array.length_toList]; exact h
  rw [bt, List.getD_eq_getElem?_getD, List.getElem?_eq_getElem h']
  rfl

set_option maxHeartbeats 2000000 in
theorem pname_any (s : ByteArray) (w : World) (hs : s.size ≤ 1048576) :
    Calls Try.prog 23 #[.string s] w fun e w' => e = .returned (.bool (pname s.data.toList)) ∧ w = w' := by
  by_cases h0 : s.size = 0
  · rw [pname_size0 h0]
    have hs0 : s = ⟨#[]⟩ := by
      apply ByteArray.ext
      apply Array.eq_empty_of_size_eq_zero
      exact h0
    subst hs0
    go_enter Try.func23, Try.ntmps23
    go_wp2
    go_ret
    exact ⟨rfl, rfl⟩
  · have hn0 : ¬ s = (⟨#[]⟩ : ByteArray) := by
      intro h
      rw [h] at h0
      exact h0 rfl
    have hpos : (0 : Int) < (s.size : Int) := by omega
    go_enter Try.func23, Try.ntmps23
    have hem : s.toList.isEmpty = false := by
      rw [ByteArray.toList_eq]
      cases hq : s.data.toList with
      | nil => exact absurd (by have h := Array.length_toList (xs := s.data); rw [hq] at h; exact h.symm) h0
      | cons => rfl
    have hb0 : ∀ (i : Nat) (h : i < s.size), (((s[i]'h).toNat : Nat) : Int) = bt s i := bt_elem s
    have hlt0 : (0 : Nat) < s.size := by omega
    have hc0 := hb0 0 hlt0
    cases hl : letB (bt s 0) with
    | false =>
      rw [pname_head hl]
      go_wp2_with (go_at_call 28; refine (letter28 _ _).mono ?_; rintro e w' ⟨rfl, rfl⟩)
      go_ret
      exact ⟨rfl, rfl⟩
    | true =>
      go_wp2_with (go_at_call 28; refine (letter28 _ _).mono ?_; rintro e w' ⟨rfl, rfl⟩)
      go_loop [3, 4] (fun i _ => ∃ (k : Nat), 1 ≤ k ∧ k ≤ s.size ∧ i = .int .i64 k ∧ Hid (∀ j, 1 ≤ j → j < k → tailB (bt s j) = true)) (fun i _ => s.size - (intOf i).toNat)
      case atStart => exact ⟨1, Nat.le_refl _, by omega, rfl, fun j h1 h2 => absurd h2 (by omega)⟩
      case round =>
        obtain ⟨k, h1, hk, rfl, HP⟩ := hrel
        by_cases hlt : k < s.size
        · have hck := hb0 k hlt
          obtain ⟨X, hX⟩ : ∃ X, X = bt s k := ⟨_, rfl⟩
          rw [← hX] at hck
          have HX : Hid (X = bt s k) := hX
          clear hX hb0 hc0
          cases ht : tailB X with
          | true =>
            have HT : Hid (tailB X = true) := ht
            have good : ∀ j, 1 ≤ j → j < k + 1 → tailB (bt s j) = true := fun j g1 g2 => by
              by_cases e : j = k
              · subst e; rw [← HX.out]; exact HT.out
              · exact HP.out j g1 (by omega)
            have HG : Hid (∀ j, 1 ≤ j → j < k + 1 → tailB (bt s j) = true) := good
            clear good
            cases hlx : letB X with
            | true =>
              clear ht
              go_wp2_with (go_at_call 28; refine (letter28 _ _).mono ?_; rintro e w' ⟨rfl, rfl⟩)
              go_round
              case rel => exact ⟨k + 1, by omega, by omega, by go_num, HG⟩
              case measure => simp [intOf]; omega
            | false =>
              simp only [tailB, hlx, Bool.false_or, Bool.or_eq_true, Bool.and_eq_true, decide_eq_true_eq] at ht
              by_cases d : 48 ≤ X ∧ X ≤ 57
              · obtain ⟨d1, d2⟩ := d
                clear ht
                go_wp2_with (go_at_call 28; refine (letter28 _ _).mono ?_; rintro e w' ⟨rfl, rfl⟩)
                go_round
                case rel => exact ⟨k + 1, by omega, by omega, by go_num, HG⟩
                case measure => simp [intOf]; omega
              · by_cases d1 : 48 ≤ X
                · have d2 : decide (X ≤ 57) = false := by simp; omega
                  have d3 : (X != 95) = false := by have : X = 95 := by omega
                                                    subst this; rfl
                  clear ht d
                  go_wp2_with (go_at_call 28; refine (letter28 _ _).mono ?_; rintro e w' ⟨rfl, rfl⟩)
                  go_round
                  case rel => exact ⟨k + 1, by omega, by omega, by go_num, HG⟩
                  case measure => simp [intOf]; omega
                · have d2 : decide (48 ≤ X) = false := by simp; omega
                  have d3 : (X != 95) = true := by have : X ≠ 95 := by omega
                                                   simpa using this
                  have d4 : (X != 45) = false := by have : X = 45 := by omega
                                                    subst this; rfl
                  clear ht d
                  go_wp2_with (go_at_call 28; refine (letter28 _ _).mono ?_; rintro e w' ⟨rfl, rfl⟩)
                  go_round
                  case rel => exact ⟨k + 1, by omega, by omega, by go_num, HG⟩
                  case measure => simp [intOf]; omega
          | false =>
            have hbad := pname_bad k h1 hlt (by rw [← HX.out]; exact ht)
            have HB : Hid (pname s.data.toList = false) := hbad
            clear hbad
            simp only [tailB, Bool.or_eq_false_iff, Bool.and_eq_false_iff, decide_eq_false_iff_not] at ht
            obtain ⟨⟨hlx, hd⟩, h95, h45⟩ := ht
            have d3 : (X != 95) = true := by simpa using h95
            have d4 : (X != 45) = true := by simpa using h45
            clear h95 h45
            by_cases d1 : 48 ≤ X
            · have d2 : decide (X ≤ 57) = false := by simp; omega
              clear hd
              go_wp2_with (go_at_call 28; refine (letter28 _ _).mono ?_; rintro e w' ⟨rfl, rfl⟩)
              go_ret
              exact ⟨by rw [HB.out]; rfl, rfl⟩
            · have d2 : decide (48 ≤ X) = false := by simp; omega
              clear hd
              go_wp2_with (go_at_call 28; refine (letter28 _ _).mono ?_; rintro e w' ⟨rfl, rfl⟩)
              go_ret
              exact ⟨by rw [HB.out]; rfl, rfl⟩
        · have hgood := pname_good h0 hl (fun j h1 h2 => HP.out j h1 (by omega))
          have HB : Hid (pname s.data.toList = true) := hgood
          clear hgood
          go_wp2
          go_ret
          exact ⟨by rw [HB.out]; rfl, rfl⟩
end Go.Proofs.Qxb6619225a
