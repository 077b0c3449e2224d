/-
  FnEditDistanceOneEditAwayIsOne: the walk.
-/
import Derived.Test.Qxb6619225aEdit
namespace Go.Proofs.Qxb6619225a
open Go.RowKit Mem

def R (zs : List Int) : List Value := zs.map (Value.int .i32)
theorem R_length (zs : List Int) : (R zs).length = zs.length := by simp [R]
theorem R_get (zs : List Int) (k : Nat) (h : k < zs.length) : (R zs)[k]? = some (.int .i32 (zs.getD k 0)) := by
  simp [R, List.getElem?_eq_getElem h]
theorem R_set (zs : List Int) (k : Nat) (x : Int) : (R zs).set k (.int .i32 x) = R (zs.set k x) := by simp [R, List.map_set]
theorem R_one (zs : List Int) : ∀ u ∈ R zs, u.oneCell' = true := by
  intro u hu
  obtain ⟨_, _, rfl⟩ := List.mem_map.1 hu
  rfl
theorem R_full {vs : List Value} {l : List Int} (hl : vs.length = l.length) (h : ∀ i, i < l.length → vs[i]? = some (.int .i32 (l.getD i 0))) : vs = R l := by
  apply List.ext_getElem?
  intro i
  by_cases hi : i < l.length
  · rw [h i hi, R_get l i hi]
  · rw [List.getElem?_eq_none (by omega), List.getElem?_eq_none (by rw [R_length]; omega)]
theorem Rd.ofArr {w : World} {g : Nat} {zs : List Int} (h : Arr w g 21 (R zs)) : Rd w (some ⟨g, 0, none⟩) zs.length zs :=
  ⟨rfl, fun _ => ⟨g, 0, rfl, fun i hi => by rw [Nat.zero_add, h.cell, R_get _ _ hi]⟩⟩
theorem Rd.cells {w : World} {a : Option Addr} {len : Nat} {zs : List Int} (h : Rd w a len zs) : 0 < len → ∃ ad, a = some ad ∧ ∀ j v, (R zs)[j]? = some v → w.cell? (ad.add j) = some v := by
  intro h0
  obtain ⟨b, off, rfl, hc⟩ := h.2 h0
  refine ⟨_, rfl, fun j u hu => ?_⟩
  have hj : j < zs.length := by have := (List.getElem?_eq_some_iff.1 hu).1; simpa [R] using this
  have hadd : (⟨b, off, none⟩ : Addr).add j = ⟨b, off + j, none⟩ := by unfold Addr.add; split <;> simp_all
  rw [hadd, hc j (by rw [← h.1]; exact hj), ← R_get zs j hj, hu]

theorem Try.info21 : (Try.prog.info? 21).map (fun i => (i.zero, i.size, i.bytes)) = some (some (.int .i32 0), 1, 4) := by kernel_rfl

theorem zzedit_any (pa pb : Option Addr) (la lb ca cb : Nat) (a b : List Int) (w : World) (hA : Rd w pa la a) (hB : Rd w pb lb b) (h1 : la ≤ 1024) (h2 : lb ≤ 1024) (d : Nat) (hd : dist a b = d) :
    Calls Try.prog 8 #[.slice pa la ca, .slice pb lb cb] w fun e w' => e = .returned (.int .i64 (d : Nat)) ∧ Below w.heap.size w w' := by
  subst hd
  obtain rfl := hA.1
  obtain rfl := hB.1
  go_enter Try.func8, Try.ntmps8
  go_wp2_with fail
  refine (edit_any pa pb ca cb a b _ hA hB h1 h2).mono ?_
  rintro e w' ⟨rfl, hb⟩
  go_wp2
  go_ret
  exact ⟨rfl, hb⟩

def SomeBool (e : Ending) : Prop := ∃ x, e = .returned (.bool x)
theorem zz14_any (a : Option Addr) (la ca : Nat) (p r : Int) (w : World) (h1 : la ≤ maxLen) :
    Calls Try.prog 14 #[.slice a la ca, .int .i64 p, .int .i32 r] w fun e w' => SomeBool e ∧ w = w' := by
  unfold maxLen at h1
  go_enter Try.func14, Try.ntmps14
  go_wp2
  all_goals (go_ret; exact ⟨⟨_, rfl⟩, rfl⟩)

set_option maxHeartbeats 400000 in
theorem clone_any (pa : Option Addr) (ca : Nat) (a : List Int) (w : World) (h : Rd w pa a.length a) (hl : a.length ≤ 1024) :
    Calls Try.prog 15 #[.slice pa a.length ca] w fun e w' => ∃ g, e = .returned (.slice (some ⟨g, 0, none⟩) a.length a.length) ∧ w.heap.size ≤ g ∧ Arr w' g 21 (R a) ∧ Below w.heap.size w w' := by
  go_enter Try.func15, Try.ntmps15
  go_wp2_with (at_make; refine wpList_make_abs rfl _ _ 22 rfl 21 (.int .i32 0) 4 Try.underlying22 Try.info21 rfl .i64 .i64 a.length _ _ rfl rfl rfl rfl (by omega) (by omega) ?_; intro g w1 hg hgl hArr hbel)
  go_loopw [4] (fun i wr => ∃ (k : Nat) (vs : List Value), k ≤ a.length ∧ i = .int .i64 k ∧ vs.length = a.length ∧ Arr wr g 21 vs ∧ Hid (∀ i, i < k → vs[i]? = some (.int .i32 (a.getD i 0))) ∧ Below w.heap.size w wr) (fun i _ => a.length - (intOf i).toNat)
  case atStart => exact ⟨0, _, Nat.zero_le _, rfl, by simp, hArr, fun i hi => absurd hi (by omega), hbel⟩
  case round =>
    obtain ⟨k, vs, hk, rfl, hvl, hA, HP, hb⟩ := hrel
    by_cases hlt : k < a.length
    · obtain ⟨b', off, rfl, hc⟩ := (h.below hb).cell hlt
      have hcell := hc k hlt
      obtain ⟨x, hx⟩ : ∃ x, x = a.getD k 0 := ⟨_, rfl⟩
      rw [← hx] at hcell
      have HX : Hid (x = a.getD k 0) := hx
      have hcg : wr.cell? ⟨g, k, none⟩ = some (vs[k]'(by omega)) := by rw [hA.cell]; exact List.getElem?_eq_getElem (by omega)
      have hfg := hA.frozen k
      clear hc hx h
      go_wp2
      go_roundw
      case rel =>
        refine ⟨k + 1, _, by omega, by go_num, by simpa using hvl, hA.set k _, fun i hi => ?_, hb.setCell (by simpa using hg) _⟩
        by_cases e : i = k
        · subst e; rw [List.getElem?_set_self (by omega), HX.out]
        · rw [List.getElem?_set_ne (by omega)]; exact HP.out i (by omega)
      case measure => simp [intOf]; omega
    · go_wp2
      go_ret
      obtain rfl : vs = R a := R_full hvl (fun i hi => HP.out i (by omega))
      exact ⟨g, rfl, hg, hA, hb⟩

theorem ins_get (a : List Int) (p : Nat) (r : Int) (hp : p ≤ a.length) : (∀ s, s < p → a.getD s 0 = (a.take p ++ r :: a.drop p).getD s 0) ∧ (a.take p ++ r :: a.drop p).getD p 0 = r ∧ ∀ s, p ≤ s → a.getD s 0 = (a.take p ++ r :: a.drop p).getD (s + 1) 0 := by
  have hl : (a.take p).length = p := by simp; omega
  refine ⟨fun s hs => ?_, ?_, fun s hs => ?_⟩
  · simp only [List.getD_eq_getElem?_getD]
    rw [List.getElem?_append_left (by omega), List.getElem?_take, if_pos hs]
  · simp only [List.getD_eq_getElem?_getD]
    rw [List.getElem?_append_right (by omega), hl]
    simp
  · simp only [List.getD_eq_getElem?_getD]
    rw [List.getElem?_append_right (by omega), hl, show s + 1 - p = (s - p) + 1 by omega]
    simp only [List.getElem?_cons_succ, List.getElem?_drop]
    rw [show p + (s - p) = s by omega]

theorem set_getD (a : List Int) (p s : Nat) (x : Int) (hp : p < a.length) : (a.set p x).getD s 0 = if s = p then x else a.getD s 0 := by
  simp only [List.getD_eq_getElem?_getD, List.getElem?_set]
  by_cases e : p = s
  · subst e; simp [hp]
  · simp [e, Ne.symm e]

set_option maxRecDepth 100000 in
set_option maxHeartbeats 1000000 in
theorem one_off (pa : Option Addr) (la ca : Nat) (p r : Int) (w : World) (h1 : la ≤ maxLen) (hoff : 512 < la ∨ p < 0 ∨ (la : Int) < p) :
    Calls Try.prog 5 #[.slice pa la ca, .int .i64 p, .int .i32 r] w fun e w' => e = .returned (.bool true) ∧ Below w.heap.size w w' := by
  have k1 := h1
  unfold maxLen at k1
  go_enter Try.func5, Try.ntmps5
  go_upto_region 7 with (go_at_call 14; refine (zz14_any pa la ca p r _ h1).mono ?_; rintro e w' ⟨⟨x, rfl⟩, rfl⟩)
  all_goals first | (go_ret; exact ⟨rfl, Below.refl _ _⟩) | (exfalso; omega)

set_option maxRecDepth 100000 in
set_option maxHeartbeats 4000000 in
theorem one_on (pa : Option Addr) (ca p : Nat) (r : Int) (a : List Int) (w : World) (hA : Rd w pa a.length a) (hp : p ≤ a.length) (hl : a.length ≤ 512) :
    Calls Try.prog 5 #[.slice pa a.length ca, .int .i64 p, .int .i32 r] w fun e w' => e = .returned (.bool true) ∧ Below w.heap.size w w' := by
  have hm : a.length ≤ maxLen := by unfold maxLen; omega
  have q : ∀ (w : World) (a : Option Addr) (n c : Nat), (binOp .neq 22 (.slice a n c) (.slice none 0 0)).run Try.prog w = .ok (.bool (!a.isNone)) w := fun w a n c => run_neq_slice_nil_any w 22 21 a n c 0 0 Try.underlying22
  go_enter Try.func5, Try.ntmps5
  go_upto_if 31 with (go_at_call 14; refine (zz14_any pa _ ca _ r _ hm).mono ?_; rintro e w' ⟨⟨x, rfl⟩, rfl⟩)
  · go_ret; exact ⟨rfl, Below.refl _ _⟩
  go_cut [0] (fun s0 wx => ∃ pa' c', s0 = .slice pa' a.length c' ∧ Rd wx pa' a.length a ∧ Below w.heap.size w wx)
  case first =>
    cases pa with
    | none =>
      go_wp2
      go_meet
      case rel => exact ⟨_, _, rfl, hA, Below.refl _ _⟩
    | some b' =>
      go_wp2_with (first
        | (at_make; refine wpList_make_abs rfl _ _ 22 rfl 21 (.int .i32 0) 4 Try.underlying22 Try.info21 rfl .i64 .i64 a.length _ _ rfl rfl rfl rfl (by omega) (by omega) ?_; intro g w1 hg hgl hArr hbel)
        | (refine wpList_copy_abs rfl (.tmp 35) (.tmp 36) 22 22 rfl 21 Try.underlying22 (by kernel_rfl) g a.length a.length _ _ rfl rfl 21 _ hArr (R a) (by simp) (R_length _) (hA.below hbel).cells (R_one a) ?_; intro w2 HG2 hB2))
      go_meet
      case rel => exact ⟨_, _, rfl, Rd.ofArr HG2, hbel.trans (hB2 _ hg)⟩
  obtain ⟨w1, rfl⟩ : ∃ w1, w1 = wc := ⟨_, rfl⟩
  obtain ⟨pa', c', rfl, hA1, hb1⟩ := hcut
  clear q hA
  -- ins: a with r at p
  obtain ⟨n1, n2, n3⟩ := ins_get a p r hp
  have nl : (a.take p ++ r :: a.drop p).length = a.length + 1 := by simp; omega
  obtain ⟨ins, hins⟩ : ∃ ins, ins = a.take p ++ r :: a.drop p := ⟨_, rfl⟩
  rw [← hins] at n1 n2 n3 nl
  clear hins
  have N1 : Hid (∀ s, s < p → a.getD s 0 = ins.getD s 0) := n1
  have N2 : Hid (ins.getD p 0 = r) := n2
  have N3 : Hid (∀ s, p ≤ s → a.getD s 0 = ins.getD (s + 1) 0) := n3
  clear n1 n2 n3
  go_upto_block 0 with (at_make; refine wpList_make_abs rfl _ _ 22 rfl 21 (.int .i32 0) 4 Try.underlying22 Try.info21 rfl .i64 .i64 (a.length + 1) _ _ rfl rfl (by omega) (by omega) (by omega) (by omega) ?_; intro g w2 hg hgl hArr hb2)
  have hwg : w.heap.size ≤ g := Nat.le_trans hb1.size hg
  go_cut [] (fun wx => (∃ vs, Arr wx g 21 vs ∧ vs.length = a.length + 1 ∧ ∀ i, i < p → vs[i]? = some (.int .i32 (ins.getD i 0))) ∧ Below w1.heap.size w1 wx)
  case first =>
    go_wp2
    go_loopw [9] (fun i wr => ∃ (k : Nat) (vs : List Value), k ≤ p ∧ i = .int .i64 k ∧ Arr wr g 21 vs ∧ vs.length = a.length + 1 ∧ Hid (∀ i, i < k → vs[i]? = some (.int .i32 (ins.getD i 0))) ∧ Below w1.heap.size w1 wr) (fun i _ => p - (intOf i).toNat)
    case atStart => exact ⟨0, _, Nat.zero_le _, rfl, hArr, by simp, fun i hi => absurd hi (by omega), hb2⟩
    case round =>
      clear hArr hb2
      obtain ⟨k, vs, hk, rfl, hR, hvl, HP, hb⟩ := hrel
      by_cases hlt : k < p
      · have hka : k < a.length := by omega
        obtain ⟨b', off, rfl, hc⟩ := (hA1.below hb).cell hka
        have hcell := hc k hka
        rw [N1.out k hlt] at hcell
        obtain ⟨x, hx⟩ : ∃ x, x = ins.getD k 0 := ⟨_, rfl⟩
        rw [← hx] at hcell
        have HX : Hid (x = ins.getD k 0) := hx
        have hcg : wr.cell? ⟨g, k, none⟩ = some (vs[k]'(by omega)) := by rw [hR.cell]; exact List.getElem?_eq_getElem (by omega)
        have hfg := hR.frozen k
        have hkl : (k : Int) < (a.length : Int) + 1 := by omega
        clear hc hx hA1
        go_wp2
        go_roundw
        case rel =>
          refine ⟨k + 1, _, by omega, by go_num, hR.set k _, by simpa using hvl, fun i hi => ?_, hb.setCell (by simpa using hg) _⟩
          by_cases e : i = k
          · subst e; rw [List.getElem?_set_self (by omega), HX.out]
          · rw [List.getElem?_set_ne (by omega)]; exact HP.out i (by omega)
        case measure => simp [intOf]; omega
      · go_wp2
        go_meet
        case rel => exact ⟨⟨vs, hR, hvl, fun i hi => HP.out i (by omega)⟩, hb⟩
  obtain ⟨w3, rfl⟩ : ∃ w3, w3 = wc := ⟨_, rfl⟩
  obtain ⟨⟨vs3, hR3, hvl3, hP3⟩, hb3⟩ := hcut
  have HP3 : Hid (∀ i, i < p → vs3[i]? = some (.int .i32 (ins.getD i 0))) := hP3
  have hcp : w3.cell? ⟨g, p, none⟩ = some (vs3[p]'(by omega)) := by rw [hR3.cell]; exact List.getElem?_eq_getElem (by omega)
  have hfp := hR3.frozen p
  have hpl : (p : Int) < (a.length : Int) + 1 := by omega
  clear hArr hb2 hP3
  go_upto_block 2 with fail
  go_cut [] (fun wx => Arr wx g 21 (R ins) ∧ Below w1.heap.size w1 wx)
  case first =>
    go_wp2
    go_loopw [10] (fun i wr => ∃ (k : Nat) (vs : List Value), p ≤ k ∧ k ≤ a.length ∧ i = .int .i64 k ∧ Arr wr g 21 vs ∧ vs.length = a.length + 1 ∧ Hid (∀ i, i < k + 1 → vs[i]? = some (.int .i32 (ins.getD i 0))) ∧ Below w1.heap.size w1 wr) (fun i _ => a.length - (intOf i).toNat)
    case atStart =>
      refine ⟨p, _, Nat.le_refl _, hp, rfl, hR3.set p _, by simpa using hvl3, fun i hi => ?_, hb3.setCell (by simpa using hg) _⟩
      by_cases e : i = p
      · subst e; rw [List.getElem?_set_self (by omega), N2.out]
      · rw [List.getElem?_set_ne (by omega)]; exact HP3.out i (by omega)
    case round =>
      clear hR3 hb3 hcp hfp
      obtain ⟨k, vs, hpk, hk, rfl, hR, hvl, HP, hb⟩ := hrel
      by_cases hlt : k < a.length
      · obtain ⟨b', off, rfl, hc⟩ := (hA1.below hb).cell hlt
        have hcell := hc k hlt
        rw [N3.out k hpk] at hcell
        obtain ⟨x, hx⟩ : ∃ x, x = ins.getD (k + 1) 0 := ⟨_, rfl⟩
        rw [← hx] at hcell
        have HX : Hid (x = ins.getD (k + 1) 0) := hx
        have hcg : wr.cell? ⟨g, k + 1, none⟩ = some (vs[k + 1]'(by omega)) := by rw [hR.cell]; exact List.getElem?_eq_getElem (by omega)
        have hfg := hR.frozen (k + 1)
        have hkl : (k : Int) + 1 < (a.length : Int) + 1 := by omega
        clear hc hx hA1
        go_wp2
        go_roundw
        case rel =>
          refine ⟨k + 1, _, by omega, by omega, by go_num, hR.set (k + 1) _, by simpa using hvl, fun i hi => ?_, hb.setCell (by simpa using hg) _⟩
          by_cases e : i = k + 1
          · subst e; rw [List.getElem?_set_self (by omega), HX.out]
          · rw [List.getElem?_set_ne (by omega)]; exact HP.out i (by omega)
        case measure => simp [intOf]; omega
      · go_wp2
        go_meet
        case rel =>
          obtain rfl : vs = R ins := R_full (by omega) (fun i hi => HP.out i (by omega))
          exact ⟨hR, hb⟩
  obtain ⟨w4, rfl⟩ : ∃ w4, w4 = wc := ⟨_, rfl⟩
  obtain ⟨hR4, hb4⟩ := hcut
  clear hR3 hvl3 HP3 hcp hfp hb3
  have hA4 := hA1.below hb4
  have hI4 : Rd w4 (some ⟨g, 0, none⟩) (a.length + 1) ins := by rw [← nl]; exact Rd.ofArr hR4
  have hbw4 : Below w.heap.size w w4 := hb1.trans (hb4.mono hb1.size)
  have d1 : dist a ins = 1 := dist_ins a ins p hp nl (fun s hs => N1.out s hs) (fun s hs _ => N3.out s hs)
  have d2 : dist ins a = 1 := dist_del a ins p hp nl (fun s hs => N1.out s hs) (fun s hs _ => N3.out s hs)
  have H1 : Hid (dist a ins = 1) := d1
  have H2 : Hid (dist ins a = 1) := d2
  clear d1 d2 hA1 hR4 hb4 hb1 N1 N2 N3
  go_wp2_with fail
  refine (zzedit_any pa' pa' _ _ c' c' a a _ hA4 hA4 (by omega) (by omega) 0 (dist_self a)).mono ?_
  rintro e w5 ⟨rfl, hb5⟩
  go_wp2_with fail
  refine (zzedit_any pa' (some ⟨g, 0, none⟩) _ _ c' _ a ins _ (hA4.below hb5) (hI4.below hb5) (by omega) (by omega) 1 H1.out).mono ?_
  rintro e w6 ⟨rfl, hb6⟩
  have hb46 : Below w4.heap.size w4 w6 := hb5.trans (hb6.mono hb5.size)
  go_wp2_with fail
  refine (zzedit_any (some ⟨g, 0, none⟩) pa' _ _ _ c' ins a _ (hI4.below hb46) (hA4.below hb46) (by omega) (by omega) 1 H2.out).mono ?_
  rintro e w7 ⟨rfl, hb7⟩
  have hb47 : Below w4.heap.size w4 w7 := hb46.trans (hb7.mono hb46.size)
  have hA7 := hA4.below hb47
  have hbw7 : Below w.heap.size w w7 := hbw4.trans (hb47.mono hbw4.size)
  clear hb5 hb6 hb7 hb46 hb47 hA4 hI4 hbw4 H1 H2
  by_cases hpa : p < a.length
  · obtain ⟨b', off, rfl, hc⟩ := hA7.cell hpa
    have hcp := hc p hpa
    obtain ⟨X, hX⟩ : ∃ X, X = a.getD p 0 := ⟨_, rfl⟩
    rw [← hX] at hcp
    have HX : Hid (X = a.getD p 0) := hX
    clear hX hc
    have hpi : (p : Int) < (a.length : Int) := by omega
    go_upto_if 99 with fail
    go_cut [] (fun wx => Below w7.heap.size w7 wx)
    case first =>
      cases hxr : (X != r) with
      | false =>
        go_wp2
        go_meet
        case rel => exact Below.refl _ _
      | true =>
        have hne : X ≠ r := by simpa using hxr
        have HN : Hid (X ≠ r) := hne
        clear hne
        go_upto_region 27 with (go_at_call 15; refine (clone_any _ c' a _ hA7 (by omega)).mono ?_; rintro e w8 ⟨g8, rfl, hg8, hR8, hb8⟩)
        have hc8 : w8.cell? ⟨g8, p, none⟩ = some (.int .i32 X) := by rw [hR8.cell, R_get _ _ hpa, ← HX.out]
        have hf8 := hR8.frozen p
        have hR9 := hR8.set p (.int .i32 r)
        rw [R_set] at hR9
        have hb9 : Below w7.heap.size w7 (w8.setCell ⟨g8, p, none⟩ (.int .i32 r)) := hb8.setCell (by simpa using hg8) _
        have hl9 : (a.set p r).length = a.length := by simp
        have e1 : dist a (a.set p r) = 1 := dist_rep a _ p hpa hl9 (by rw [set_getD a p p r hpa, if_pos rfl, ← HX.out]; exact HN.out) (fun s _ hs => by rw [set_getD a p s r hpa, if_neg hs])
        have e2 : dist (a.set p r) a = 1 := dist_rep _ a p (by rw [hl9]; exact hpa) hl9.symm (by rw [set_getD a p p r hpa, if_pos rfl, ← HX.out]; exact Ne.symm HN.out) (fun s _ hs => by rw [set_getD a p s r hpa, if_neg hs])
        have H1 : Hid (dist a (a.set p r) = 1) := e1
        have H2 : Hid (dist (a.set p r) a = 1) := e2
        have hI9 : Rd (w8.setCell ⟨g8, p, none⟩ (.int .i32 r)) (some ⟨g8, 0, none⟩) a.length (a.set p r) := by have := Rd.ofArr hR9; rw [hl9] at this; exact this
        have hA9 := hA7.below hb9
        clear e1 e2 hR8 hR9 hb8 hl9
        go_wp2_with fail
        refine (zzedit_any _ (some ⟨g8, 0, none⟩) _ _ c' _ a (a.set p r) _ hA9 hI9 (by omega) (by omega) 1 H1.out).mono ?_
        rintro e w10 ⟨rfl, hb10⟩
        go_wp2_with fail
        refine (zzedit_any (some ⟨g8, 0, none⟩) _ _ _ _ c' (a.set p r) a _ (hI9.below hb10) (hA9.below hb10) (by omega) (by omega) 1 H2.out).mono ?_
        rintro e w11 ⟨rfl, hb11⟩
        go_wp2
        go_meet
        case rel => exact hb9.trans ((hb10.mono hb9.size).trans (hb11.mono (Nat.le_trans hb9.size hb10.size)))
    obtain ⟨w12, rfl⟩ : ∃ w12, w12 = wc := ⟨_, rfl⟩
    have hb12 := hcut
    have hA12 := hA7.below hb12
    have hbw12 : Below w.heap.size w w12 := hbw7.trans (hb12.mono hbw7.size)
    have hcp12 := cell_later hb12 hcp
    clear hcut hcp hA7 hbw7 hb12
    by_cases hp1 : p + 1 < a.length
    · have hp1i : (p : Int) + 1 < (a.length : Int) := by omega
      have hcq12 : w12.cell? ⟨b', off + (p + 1), none⟩ = some (.int .i32 (a.getD (p + 1) 0)) := by
        obtain ⟨b2, o2, e, q⟩ := hA12.2 (by omega)
        simp at e
        obtain ⟨rfl, rfl⟩ := e
        exact q (p + 1) hp1
      obtain ⟨Y, hY⟩ : ∃ Y, Y = a.getD (p + 1) 0 := ⟨_, rfl⟩
      rw [← hY] at hcq12
      have HY : Hid (Y = a.getD (p + 1) 0) := hY
      have q1 : IntKind.i64.wrap ((p : Int) + 1) = (p : Int) + 1 := by rw [IntKind.wrap_i64]; omega
      have q2 : (0 : Int) ≤ (p : Int) + 1 := by omega
      clear hY
      cases hxy : (X != Y) with
      | false =>
        go_upto_region 30 with fail
        go_quiet (fail)
        go_wp2
        go_ret
        exact ⟨rfl, below_drewN hbw12 _⟩
      | true =>
        have hne : X ≠ Y := by simpa using hxy
        have HN : Hid (X ≠ Y) := hne
        clear hne
        go_upto_region 30 with fail
        go_quiet (fail)
        generalize hw13 : w12.drewN nq = w13
        have hA13 : Rd w13 (some ⟨b', off, none⟩) a.length a := by rw [← hw13]; exact hA12
        have hbw13 : Below w.heap.size w w13 := by rw [← hw13]; exact below_drewN hbw12 _
        clear hw13 hA12 hbw12 hcp12 hcq12
        go_upto_region 32 with (go_at_call 15; refine (clone_any _ c' a _ hA13 (by omega)).mono ?_; rintro e w14 ⟨g14, rfl, hg14, hR14, hb14⟩)
        have hc14 : w14.cell? ⟨g14, p, none⟩ = some (.int .i32 X) := by rw [hR14.cell, R_get _ _ hpa, ← HX.out]
        have hd14 : w14.cell? ⟨g14, p + 1, none⟩ = some (.int .i32 Y) := by rw [hR14.cell, R_get _ _ hp1, ← HY.out]
        have hf14 := hR14.frozen p
        have hf14' := hR14.frozen (p + 1)
        have hR15 := (hR14.set p (.int .i32 Y)).set (p + 1) (.int .i32 X)
        rw [R_set, R_set] at hR15
        have hb15 : Below w13.heap.size w13 ((w14.setCell ⟨g14, p, none⟩ (.int .i32 Y)).setCell ⟨g14, p + 1, none⟩ (.int .i32 X)) := (hb14.setCell (by simpa using hg14) _).setCell (by simpa using hg14) _
        obtain ⟨sw, hsw⟩ : ∃ sw, sw = (a.set p Y).set (p + 1) X := ⟨_, rfl⟩
        rw [← hsw] at hR15
        have hl15 : sw.length = a.length := by rw [hsw]; simp
        have hget : ∀ s, sw.getD s 0 = if s = p + 1 then X else if s = p then Y else a.getD s 0 := fun s => by
          rw [hsw, set_getD (a.set p Y) (p + 1) s X (by simpa using hp1), set_getD a p s Y hpa]
        have e1 : dist a sw = 1 := dist_swap a sw p hp1 hl15 (by rw [← HX.out, ← HY.out]; exact HN.out) (by rw [hget, if_neg (by omega), if_pos rfl, ← HY.out]) (by rw [hget, if_pos rfl, ← HX.out]) (fun s _ h1 h2 => by rw [hget, if_neg h2, if_neg h1])
        have e2 : dist sw a = 1 := dist_swap sw a p (by rw [hl15]; exact hp1) hl15.symm (by rw [hget, hget, if_neg (by omega), if_pos rfl, if_pos rfl]; exact Ne.symm HN.out) (by rw [hget, if_pos rfl, ← HX.out]) (by rw [hget, if_neg (by omega), if_pos rfl, ← HY.out]) (fun s _ h1 h2 => by rw [hget, if_neg h2, if_neg h1])
        have H1 : Hid (dist a sw = 1) := e1
        have H2 : Hid (dist sw a = 1) := e2
        have hI15 : Rd ((w14.setCell ⟨g14, p, none⟩ (.int .i32 Y)).setCell ⟨g14, p + 1, none⟩ (.int .i32 X)) (some ⟨g14, 0, none⟩) a.length sw := by have := Rd.ofArr hR15; rw [hl15] at this; exact this
        have hA15 := hA13.below hb15
        clear e1 e2 hR14 hR15 hb14 hl15 hget hsw
        go_wp2_with fail
        refine (zzedit_any _ (some ⟨g14, 0, none⟩) _ _ c' _ a sw _ hA15 hI15 (by omega) (by omega) 1 H1.out).mono ?_
        rintro e w16 ⟨rfl, hb16⟩
        go_wp2_with fail
        refine (zzedit_any (some ⟨g14, 0, none⟩) _ _ _ _ c' sw a _ (hI15.below hb16) (hA15.below hb16) (by omega) (by omega) 1 H2.out).mono ?_
        rintro e w17 ⟨rfl, hb17⟩
        go_wp2
        go_ret
        exact ⟨rfl, hbw13.trans ((hb15.trans ((hb16.mono hb15.size).trans (hb17.mono (Nat.le_trans hb15.size hb16.size)))).mono hbw13.size)⟩
    · have hd : decide ((p : Int) + 1 < (a.length : Int)) = false := by simp; omega
      go_upto_region 30 with fail
      go_quiet (fail)
      go_wp2
      go_ret
      exact ⟨rfl, below_drewN hbw12 _⟩
  · have hd1 : decide ((p : Int) < (a.length : Int)) = false := by simp; omega
    have hd : decide ((p : Int) + 1 < (a.length : Int)) = false := by simp; omega
    have hni : ¬ (p : Int) < (a.length : Int) := by omega
    go_upto_region 30 with fail
    go_quiet (fail)
    go_wp2
    go_ret
    exact ⟨rfl, below_drewN hbw7 _⟩
end Go.Proofs.Qxb6619225a
