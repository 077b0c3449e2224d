/-
  FnEditDistanceIsShortestEditPath: the walk of the law out of the contracts of editDistance and osaShortestPath.
-/
import Derived.Test.Qxb6619225aSearch
namespace Go.Proofs.Qxb6619225a
open Go.RowKit Mem
set_option linter.unusedVariables false

theorem zz7_any (a b : Option Addr) (la lb ca cb : Nat) (w : World) (h1 : la ≤ maxLen) (h2 : lb ≤ maxLen) :
    Calls Try.prog 7 #[.slice a la ca, .slice b lb cb] w fun e w' => SomeBool e ∧ w = w' := by
  unfold maxLen at h1 h2
  go_enter Try.func7, Try.ntmps7
  go_wp2
  all_goals (go_ret; exact ⟨⟨_, rfl⟩, rfl⟩)

set_option maxRecDepth 100000 in
set_option maxHeartbeats 1000000 in
theorem short_off (pa pb : Option Addr) (la lb ca cb : Nat) (w : World) (h1 : la ≤ maxLen) (h2 : lb ≤ maxLen) (hoff : 256 < la ∨ 256 < lb) :
    Calls Try.prog 3 #[.slice pa la ca, .slice pb lb cb] w fun e w' => e = .returned (.bool true) ∧ Below w.heap.size w w' := by
  have k1 := h1
  have k2 := h2
  unfold maxLen at k1 k2
  go_enter Try.func3, Try.ntmps3
  go_upto_region 7 with (go_at_call 7; refine (zz7_any pa pb la lb ca cb _ h1 h2).mono ?_; rintro e w' ⟨⟨x, rfl⟩, rfl⟩)
  all_goals first | (go_ret; exact ⟨rfl, Below.refl _ _⟩) | (exfalso; omega)

set_option maxRecDepth 100000 in
set_option maxHeartbeats 4000000 in
theorem short_on (pa pb : Option Addr) (ca cb : Nat) (a b : List Int) (w : World) (hA : Rd w pa a.length a) (hB : Rd w pb b.length b) (h1 : a.length ≤ 256) (h2 : b.length ≤ 256) :
    Calls Try.prog 3 #[.slice pa a.length ca, .slice pb b.length cb] w fun e w' => e = .returned (.bool true) ∧ Below w.heap.size w w' := by
  have hm1 : a.length ≤ maxLen := by unfold maxLen; omega
  have hm2 : b.length ≤ maxLen := by unfold maxLen; omega
  have q : ∀ (w : World) (a : Option Addr) (n c : Nat), (binOp .neq 22 (.slice a n c) (.slice none 0 0)).run Try.prog w = .ok (.bool (!a.isNone)) w := fun w a n c => run_neq_slice_nil_any w 22 21 a n c 0 0 Try.underlying22
  go_enter Try.func3, Try.ntmps3
  go_upto_if 18 with (go_at_call 7; refine (zz7_any pa pb _ _ ca cb _ hm1 hm2).mono ?_; rintro e w' ⟨⟨x, rfl⟩, rfl⟩)
  · go_ret; exact ⟨rfl, Below.refl _ _⟩
  go_cut [0] (fun s0 wx => ∃ pa' c', s0 = .slice pa' a.length c' ∧ Rd wx pa' a.length a ∧ Below w.heap.size w wx)
  case first =>
    cases pa with
    | none =>
      go_wp2
      go_meet
      case rel => exact ⟨_, _, rfl, hA, Below.refl _ _⟩
    | some b' =>
      go_wp2_with (first
        | (at_make; refine wpList_make_abs rfl _ _ 22 rfl 21 (.int .i32 0) 4 Try.underlying22 Try.info21 rfl .i64 .i64 a.length _ _ rfl rfl rfl rfl (by omega) (by omega) ?_; intro g w1 hg hgl hArr hbel)
        | (refine wpList_copy_abs rfl (.tmp 22) (.tmp 23) 22 22 rfl 21 Try.underlying22 (by kernel_rfl) g a.length a.length _ _ rfl rfl 21 _ hArr (R a) (by simp) (R_length _) (hA.below hbel).cells (R_one a) ?_; intro w2 HG2 hB2))
      go_meet
      case rel => exact ⟨_, _, rfl, Rd.ofArr HG2, hbel.trans (hB2 _ hg)⟩
  obtain ⟨w1, rfl⟩ : ∃ w1, w1 = wc := ⟨_, rfl⟩
  obtain ⟨pa', c', rfl, hA1, hb1⟩ := hcut
  have hB1 := hB.below hb1
  clear hA hB
  go_upto_if 27 with fail
  go_cut [1] (fun s0 wx => ∃ pb' d', s0 = .slice pb' b.length d' ∧ Rd wx pb' b.length b ∧ Below w1.heap.size w1 wx)
  case first =>
    cases pb with
    | none =>
      go_wp2
      go_meet
      case rel => exact ⟨_, _, rfl, hB1, Below.refl _ _⟩
    | some b' =>
      go_wp2_with (first
        | (at_make; refine wpList_make_abs rfl _ _ 22 rfl 21 (.int .i32 0) 4 Try.underlying22 Try.info21 rfl .i64 .i64 b.length _ _ rfl rfl rfl rfl (by omega) (by omega) ?_; intro g w2 hg hgl hArr hbel)
        | (refine wpList_copy_abs rfl (.tmp 31) (.tmp 32) 22 22 rfl 21 Try.underlying22 (by kernel_rfl) g b.length b.length _ _ rfl rfl 21 _ hArr (R b) (by simp) (R_length _) (hB1.below hbel).cells (R_one b) ?_; intro w3 HG2 hB2))
      go_meet
      case rel => exact ⟨_, _, rfl, Rd.ofArr HG2, hbel.trans (hB2 _ hg)⟩
  obtain ⟨w2, rfl⟩ : ∃ w2, w2 = wc := ⟨_, rfl⟩
  obtain ⟨pb', d', rfl, hB2, hb2⟩ := hcut
  have hA2 := hA1.below hb2
  have hbw2 : Below w.heap.size w w2 := hb1.trans (hb2.mono hb1.size)
  clear hA1 hB1 q hb1 hb2
  obtain ⟨δ, hδ⟩ : ∃ δ, dist a b = δ := ⟨_, rfl⟩
  have HD : Hid (dist a b = δ) := hδ
  clear hδ
  go_wp2_with fail
  refine (zzedit_any pa' pb' _ _ c' d' a b _ hA2 hB2 (by omega) (by omega) δ HD.out).mono ?_
  rintro e w3 ⟨rfl, hb3⟩
  go_wp2_with fail
  refine (osa_any pa' pb' c' d' a b _ (hA2.below hb3) (hB2.below hb3) h1 h2).mono ?_
  rintro e w4 ⟨rfl, hb4⟩
  rw [HD.out]
  go_wp2
  go_ret
  exact ⟨rfl, hbw2.trans ((hb3.trans (hb4.mono hb3.size)).mono hbw2.size)⟩
end Go.Proofs.Qxb6619225a
