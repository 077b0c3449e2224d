/-
  The law's own walk.
-/
import Derived.Test.Qxb6618377aWrite
import Derived.Deep.DeepCutAuto
namespace Go.Proofs.Qxb6618377a
open Go.RowKit Mem

set_option maxRecDepth 100000 in
set_option maxHeartbeats 400000 in
theorem zz_small (a b c : Option Addr) (la lb lc ca cb cc : Nat) (w : World) (h1 : la ≤ 65536) (h2 : lb ≤ 65536) (h3 : lc ≤ 65536) :
    Calls Try.prog 4 #[.slice a la ca, .slice b lb cb, .slice c lc cc] w fun e w' => e = .returned (.bool true) ∧ w = w' := by
  go_enter Try.func4, Try.ntmps4
  go_wp2
  go_ret
  exact ⟨rfl, rfl⟩

set_option maxRecDepth 100000 in
set_option maxHeartbeats 400000 in
theorem zz_any (a b c : Option Addr) (la lb lc ca cb cc : Nat) (w : World) (h1 : la ≤ maxLen) (h2 : lb ≤ maxLen) (h3 : lc ≤ maxLen) :
    Calls Try.prog 4 #[.slice a la ca, .slice b lb cb, .slice c lc cc] w fun e w' => (∃ x, e = .returned (.bool x)) ∧ w = w' := by
  unfold maxLen at h1 h2 h3
  go_enter Try.func4, Try.ntmps4
  go_wp2
  all_goals (go_ret; exact ⟨⟨_, rfl⟩, rfl⟩)

set_option maxRecDepth 100000 in
set_option maxHeartbeats 1000000 in
theorem law_big (a b c : Option Addr) (la lb lc ca cb cc : Nat) (w : World) (h1 : la ≤ maxLen) (h2 : lb ≤ maxLen) (h3 : lc ≤ maxLen) (hbig : 65536 < la ∨ 65536 < lb ∨ 65536 < lc) :
    Calls Try.prog 3 #[.slice a la ca, .slice b lb cb, .slice c lc cc] w fun e w' => e = .returned (.bool true) ∧ Below w.heap.size w w' := by
  have h1' := h1; have h2' := h2; have h3' := h3
  unfold maxLen at h1' h2' h3'
  rcases hbig with hbig | hbig | hbig
  all_goals
    go_enter Try.func3, Try.ntmps3
    go_wp2_with (go_at_call 4; refine (zz_any a b c la lb lc ca cb cc _ h1 h2 h3).mono ?_; rintro e w' ⟨⟨x, rfl⟩, rfl⟩)
    all_goals (go_ret; exact ⟨rfl, Below.refl _ _⟩)

theorem drop_drop_last (X zc : List Int) (N : Nat) : (X.drop (X.length - N) ++ zc).drop ((X.drop (X.length - N) ++ zc).length - N) = (X ++ zc).drop ((X ++ zc).length - N) := by
  have e : X.drop (X.length - N) ++ zc = (X ++ zc).drop (X.length - N) := by rw [List.drop_append_of_le_length (by omega)]
  rw [e, List.drop_drop]
  congr 1
  simp only [List.length_drop, List.length_append]
  omega
theorem lastN_lastN (X zc : List Int) : lastN (lastN X ++ zc) = lastN (X ++ zc) := drop_drop_last X zc 4096

theorem lastN_le (X : List Int) : (lastN X).length ≤ 4096 := by rw [lastN_length]; omega

theorem Own.rdn {w : World} {B : Nat} {v : Value} {zs : List Int} (h : Own w B v zs) : ∃ a n cap, v = .slice a n cap ∧ Rd w a n zs := by
  obtain ⟨a, c, h1, h2⟩ := h.rd
  exact ⟨a, _, c, h1, h2⟩

theorem set_at {vs : List Value} {zs : List Int} {k : Nat} {x : Int} (hl : vs.length = zs.length) (hk : k < zs.length) (hx : zs.getD k 0 = x) (h : ∀ i, i < k → vs[i]? = some (.int .u8 (zs.getD i 0))) :
    ∀ i, i < k + 1 → (vs.set k (.int .u8 x))[i]? = some (.int .u8 (zs.getD i 0)) := by
  subst hx
  exact set_prefix hl hk h

theorem full {w : World} {g : Nat} {vs : List Value} {zs : List Int} (h : Arr w g 5 vs) (hp : ∀ i, i < zs.length → vs[i]? = some (.int .u8 (zs.getD i 0))) : Rd w (some ⟨g, 0, none⟩) zs.length zs :=
  ⟨rfl, fun _ => ⟨g, 0, rfl, fun i hi => by rw [Nat.zero_add, h.cell]; exact hp i hi⟩⟩

set_option maxRecDepth 100000 in
set_option maxHeartbeats 1000000 in
theorem law_small (a b c : Option Addr) (ca cb cc : Nat) (za zb zc : List Int) (w : World) (ha : Rd w a za.length za) (hb : Rd w b zb.length zb) (hc : Rd w c zc.length zc) (h1 : za.length ≤ 65536) (h2 : zb.length ≤ 65536) (h3 : zc.length ≤ 65536) :
    Calls Try.prog 3 #[.slice a za.length ca, .slice b zb.length cb, .slice c zc.length cc] w fun e w' => e = .returned (.bool true) ∧ Below w.heap.size w w' := by
  have q : ∀ (w : World) (a : Option Addr) (n c : Nat), (binOp .neq 22 (.slice a n c) (.slice none 0 0)).run Try.prog w = .ok (.bool (!a.isNone)) w := fun w a n c => run_neq_slice_nil_any w 22 5 a n c 0 0 Try.underlying22
  go_enter Try.func3, Try.ntmps3
  go_upto_if 36 with (go_at_call 4; refine (zz_small a b c _ _ _ ca cb cc _ h1 h2 h3).mono ?_; rintro e w' ⟨rfl, rfl⟩)
  go_cut [1] (fun s1 wx => ∃ a' c', s1 = .slice a' zb.length c' ∧ Rd wx a' zb.length zb ∧ Below w.heap.size w wx)
  case first =>
    cases b with
    | none =>
      go_wp2
      go_meet
      case rel => exact ⟨_, _, rfl, hb, Below.refl _ _⟩
    | some b' =>
      go_wp2_with (first
        | (at_make; refine wpList_make_abs rfl _ _ 22 rfl 5 (.int .u8 0) 1 Try.underlying22 Try.info5 rfl .i64 .i64 zb.length _ _ rfl rfl rfl rfl (by omega) (by omega) ?_; intro g w1 hg hgl hArr hbel)
        | (refine wpList_copy_abs rfl (.tmp 40) (.tmp 41) 22 22 rfl 5 Try.underlying22 (by kernel_rfl) g zb.length zb.length _ _ rfl rfl 5 _ hArr (U zb) (by simp) (U_length _) (hb.below hbel).cells (U_one zb) ?_; intro w2 HG2 hB2))
      go_meet
      case rel => exact ⟨_, _, rfl, Rd.ofArr HG2, hbel.trans (hB2 _ hg)⟩
  case rest =>
    obtain ⟨b1, cb1, rfl, hb1, hbel1⟩ := hcut
    obtain ⟨w1, rfl⟩ : ∃ w1, w1 = wc := ⟨_, rfl⟩
    have ha1 := ha.below hbel1
    have hc1 := hc.below hbel1
    clear ha hc hb
    go_upto_if 45 with fail
    go_cut [2] (fun s2 wx => ∃ a' c', s2 = .slice a' zc.length c' ∧ Rd wx a' zc.length zc ∧ Below w1.heap.size w1 wx)
    case first =>
      cases c with
      | none =>
        go_wp2
        go_meet
        case rel => exact ⟨_, _, rfl, hc1, Below.refl _ _⟩
      | some b' =>
        go_wp2_with (first
          | (at_make; refine wpList_make_abs rfl _ _ 22 rfl 5 (.int .u8 0) 1 Try.underlying22 Try.info5 rfl .i64 .i64 zc.length _ _ rfl rfl rfl rfl (by omega) (by omega) ?_; intro g w1 hg hgl hArr hbel)
          | (refine wpList_copy_abs rfl (.tmp 49) (.tmp 50) 22 22 rfl 5 Try.underlying22 (by kernel_rfl) g zc.length zc.length _ _ rfl rfl 5 _ hArr (U zc) (by simp) (U_length _) (hc1.below hbel).cells (U_one zc) ?_; intro w2 HG2 hB2))
        go_meet
        case rel => exact ⟨_, _, rfl, Rd.ofArr HG2, hbel.trans (hB2 _ hg)⟩
    case rest =>
      clear q
      obtain ⟨c1, cc1, rfl, hc2, hbel2⟩ := hcut
      obtain ⟨w2, rfl⟩ : ∃ w2, w2 = wc := ⟨_, rfl⟩
      have ha2 := ha1.below hbel2
      have hb2 := hb1.below hbel2
      have hbel : Below w.heap.size w w2 := hbel1.trans (hbel2.mono hbel1.size)
      clear ha1 hb1 hc1 hbel1 hbel2
      go_wp2_with (at_make; refine wpList_make_abs rfl _ _ 22 rfl 5 (.int .u8 0) 1 Try.underlying22 Try.info5 rfl .i64 .i64 (zb.length + zc.length) _ _ rfl rfl (by omega) (by omega) (by omega) (by omega) ?_; intro g w3 hg hgl hArr hbel3)
      have hwg : w.heap.size ≤ g := Nat.le_trans hbel.size hg
      go_loopw [10] (fun i wr => ∃ (k : Nat) (vs : List Value), k ≤ zb.length ∧ i = .int .i64 k ∧ vs.length = (zb ++ zc).length ∧ Arr wr g 5 vs ∧ (∀ i, i < k → vs[i]? = some (.int .u8 ((zb ++ zc).getD i 0))) ∧ Below w2.heap.size w2 wr) (fun i _ => zb.length - (intOf i).toNat)
      case atStart => exact ⟨0, _, Nat.zero_le _, rfl, by simp, hArr, fun i hi => absurd hi (by omega), hbel3⟩
      case round =>
        clear hArr hbel3
        obtain ⟨k, vs, hk, rfl, hvl, hA, hpre, hb⟩ := hrel
        by_cases hlt : k < zb.length
        · obtain ⟨b', off, rfl, hcc⟩ := hb2.2 (by omega)
          have hcell : wr.cell? ⟨b', off + k, none⟩ = some (.int .u8 (zb.getD k 0)) := cell_later hb (hcc k hlt)
          have hcg : wr.cell? ⟨g, k, none⟩ = some (vs[k]'(by simp at hvl; omega)) := by rw [hA.cell]; exact List.getElem?_eq_getElem (by simp at hvl; omega)
          have hfg := hA.frozen k
          clear hcc
          go_wp2
          go_roundw
          case rel => exact ⟨k + 1, _, by omega, by go_num, by simpa using hvl, hA.set k _, set_at hvl (by simp; omega) (by simp [List.getElem?_append_left hlt, hlt]) hpre, hb.setCell (by simpa using hg) _⟩
          case measure => simp [intOf]; omega
        · go_wp2
          obtain ⟨w4, rfl⟩ : ∃ w4, w4 = wr := ⟨_, rfl⟩
          go_loopw [11] (fun i wr => ∃ (k : Nat) (vs : List Value), k ≤ zc.length ∧ i = .int .i64 k ∧ vs.length = (zb ++ zc).length ∧ Arr wr g 5 vs ∧ (∀ i, i < zb.length + k → vs[i]? = some (.int .u8 ((zb ++ zc).getD i 0))) ∧ Below w2.heap.size w2 wr) (fun i _ => zc.length - (intOf i).toNat)
          case atStart => exact ⟨0, vs, Nat.zero_le _, rfl, hvl, hA, fun i hi => hpre i (by omega), hb⟩
          case round =>
            clear hvl hA hpre hb
            obtain ⟨k2, vs, hk2, rfl, hvl, hA, hpre, hb⟩ := hrel
            by_cases hlt2 : k2 < zc.length
            · obtain ⟨b', off, rfl, hcc⟩ := hc2.2 (by omega)
              have hcell : wr.cell? ⟨b', off + k2, none⟩ = some (.int .u8 (zc.getD k2 0)) := cell_later hb (hcc k2 hlt2)
              have hcg : wr.cell? ⟨g, zb.length + k2, none⟩ = some (vs[zb.length + k2]'(by simp at hvl; omega)) := by rw [hA.cell]; exact List.getElem?_eq_getElem (by simp at hvl; omega)
              have hfg := hA.frozen (zb.length + k2)
              clear hcc
              go_wp2
              go_roundw
              case rel => exact ⟨k2 + 1, _, by omega, by go_num, by simpa using hvl, hA.set (zb.length + k2) _, set_at hvl (by simp; omega) (by simp [hlt2]) hpre, hb.setCell (by simpa using hg) _⟩
              case measure => simp [intOf]; omega
            · have hj := full hA (fun i hi => hpre i (by simp at hi; omega))
              rw [List.length_append] at hj
              have hbw : Below w.heap.size w wr := hbel.trans (hb.mono hbel.size)
              have ha5 := ha2.below hb
              have hb5 := hb2.below hb
              have hc5 := hc2.below hb
              obtain ⟨w5, rfl⟩ : ∃ w5, w5 = wr := ⟨_, rfl⟩
              clear hvl hA hpre hb ha2 hb2 hc2 hbel hgl hg hwg
              go_wp2_with fail
              refine (clone_any _ _ _ w5.heap.size za _ (Nat.le_refl _) ha5 h1).mono ?_
              rintro e w6 ⟨v1, rfl, ho1, hb6⟩
              go_wp2_with fail
              refine (tail_any w5.heap.size v1 za zb _ _ _ _ ho1 hb6.size (hb5.below hb6) h1 (by omega)).mono ?_
              rintro e w7 ⟨v2, rfl, ho2, hb7, hs7⟩
              have hb57 : Below w5.heap.size w5 w7 := hb6.trans hb7
              go_wp2_with fail
              refine (tail_any w5.heap.size v2 _ zc _ _ _ _ ho2 hb57.size (hc5.below hb57) (by have := lastN_le (za ++ zb); omega) (by omega)).mono ?_
              rintro e w8 ⟨v3, rfl, ho3, hb8, hs8⟩
              have hb58 : Below w5.heap.size w5 w8 := hb57.trans hb8
              rw [lastN_lastN] at ho3
              clear ho1 ho2
              go_wp2_with fail
              refine (clone_any _ _ _ w8.heap.size za _ (Nat.le_refl _) (ha5.below hb58) h1).mono ?_
              rintro e w9 ⟨v4, rfl, ho4, hb9⟩
              go_wp2_with fail
              refine (tail_any w8.heap.size v4 za (zb ++ zc) _ _ _ _ ho4 hb9.size (hj.below (hb58.trans (hb9.mono hb58.size))) h1 (by omega)).mono ?_
              rintro e w10 ⟨v5, rfl, ho5, hb10, hs10⟩
              have hb810 : Below w8.heap.size w8 w10 := hb9.trans hb10
              have hb510 : Below w5.heap.size w5 w10 := hb58.trans (hb810.mono hb58.size)
              have ho3' := Own.below ho3 hb810
              have hbf : Below w.heap.size w w10 := hbw.trans (hb510.mono hbw.size)
              have ha10 := ha5.below hb510
              have hb10' := hb5.below hb510
              have hc10 := hc5.below hb510
              obtain ⟨ga, gl, gc, rfl, hga⟩ := ho3'.rdn
              rw [← List.append_assoc] at ho5
              obtain ⟨ja, jl, jc, rfl, hja⟩ := ho5.rdn
              clear ho3 ho4 ho5 ho3' hb6 hb7 hb8 hb9 hb10 hb57 hb58 hb810 hb510 ha5 hb5 hc5 hj hbw hs7 hs8 hs10
              go_wp2_with fail
              refine (isLast_true ga a b1 c1 _ _ _ _ gc ca cb1 cc1 za zb zc _ hga ha10 hb10' hc10 h1 h2 h3).mono ?_
              rintro e w11 ⟨rfl, n1, rfl⟩
              go_wp2_with fail
              refine (isLast_true ja a b1 c1 _ _ _ _ jc ca cb1 cc1 za zb zc _ (hja.drewN n1) (ha10.drewN n1) (hb10'.drewN n1) (hc10.drewN n1) h1 h2 h3).mono ?_
              rintro e w12 ⟨rfl, n2, rfl⟩
              go_wp2
              go_ret
              exact ⟨rfl, below_drewN hbf _⟩
end Go.Proofs.Qxb6618377a
