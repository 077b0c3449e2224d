/-
  FnAppendNamesListsEveryNameOnce: the law's own walk.
-/
import Derived.Test.Qxb6619225aList
import Derived.Lib.Builder
namespace Go.Proofs.Qxb6619225a
set_option linter.unusedVariables false
open Go.RowKit Mem

theorem Try.zero3 : (Try.prog.info? 3).map (fun i => i.zero) = some (some (.int .i64 0)) := by kernel_rfl
theorem Try.zero34 : (Try.prog.info? 34).map (fun i => i.zero) = some (some (.slice none 0 0)) := by kernel_rfl
theorem Try.inf4 : (Try.prog.info? 4).map (fun i => (i.zero, i.size, i.bytes)) = some (some (.bool false), 1, 1) := by kernel_rfl

theorem neq_same (w : World) (X : Option Addr) : (binOp .neq 35 (.pointer X) (.pointer X)).run Try.prog w = .ok (.bool false) w := by
  cases X with
  | none => exact run_neq_pointer_nil w 35 none (by kernel_rfl)
  | some a =>
    cases h : Try.prog.info? 55 with
    | none => exact absurd (show (Try.prog.info? 55).isSome = true by kernel_rfl) (by rw [h]; decide)
    | some j => exact Lib.run_neq_ptr_same w a Try.underlying35 h

/-- The prefix that came in. -/
def Pre (w : World) (a : Option Addr) (len : Nat) : Prop := ∀ j, j < len → ∃ b off z, a = some ⟨b, off, none⟩ ∧ w.cell? ⟨b, off + j, none⟩ = some (.int .i32 z)

theorem zzlist_any (B : Nat) (ok : Nat → Prop) (n : Nat) (p : Option Addr) (L : List Value) (lv : Value) (k : Nat) (xs : List Value) (w : World) (h1 : Names w ok n p L) (h2 : OwnW w B 35 1 lv k xs) (h3 : B ≤ w.heap.size) (h4 : k + L.length ≤ 200000) :
    Calls Try.prog 19 #[.pointer p, lv] w fun e w' => ∃ lv', e = .returned lv' ∧ Grown w w' B k lv xs lv' L := by
  obtain ⟨la, lc, rfl⟩ := h2.shape
  go_enter Try.func19, Try.ntmps19
  go_wp2_with (go_at_call 27; refine (list_any B ok n p L (.slice la k lc) k xs _ h1 h2 h3 h4).mono ?_; rintro e w' ⟨lv', rfl, hg⟩)
  go_ret
  exact ⟨_, rfl, hg⟩

def Ptrs (qs : List (Option Addr)) : List Value := qs.map Value.pointer
theorem Ptrs_length (qs : List (Option Addr)) : (Ptrs qs).length = qs.length := by simp [Ptrs]
theorem Ptrs_get (qs : List (Option Addr)) (k : Nat) (h : k < qs.length) : (Ptrs qs)[k]? = some (.pointer (qs.getD k none)) := by simp [Ptrs, h]
theorem Ptrs_set (qs : List (Option Addr)) (k : Nat) (x : Option Addr) : (Ptrs qs).set k (.pointer x) = Ptrs (qs.set k x) := by simp [Ptrs, List.map_set]
theorem Ptrs_rep (n : Nat) : Ptrs (List.replicate n none) = List.replicate n (.pointer none) := by simp [Ptrs]

set_option maxRecDepth 100000 in
set_option maxHeartbeats 1000000 in
theorem all_off (p : Option Addr) (pa : Option Addr) (len cap : Nat) (w : World) (h1 : len ≤ maxLen) (hoff : 65536 < len) :
    Calls Try.prog 6 #[.pointer p, .slice pa len cap] w fun e w' => e = .returned (.bool true) ∧ Below w.heap.size w w' := by
  unfold maxLen at h1
  have hi : (65536 : Int) < (len : Int) := by omega
  go_enter Try.func6, Try.ntmps6
  go_wp2
  go_ret
  exact ⟨rfl, Below.refl _ _⟩

set_option maxRecDepth 100000 in
set_option maxHeartbeats 8000000 in
theorem all_on (n : Nat) (p : Option Addr) (c : Nat) (pa : Option Addr) (len cap : Nat) (w : World) (hL : Lies w n p c) (hP : Pre w pa len) (h1 : len ≤ 65536) :
    Calls Try.prog 6 #[.pointer p, .slice pa len cap] w fun e w' => e = .returned (.bool true) ∧ Below w.heap.size w w' := by
  have hi : ¬ (65536 : Int) < (len : Int) := by omega
  have HPre : Hid (Pre w pa len) := hP
  clear hP
  go_enter Try.func6, Try.ntmps6
  go_upto_region 4 with (refine wpList_alloc_abs rfl 3 rfl _ Try.zero3 ?_; intro gb w1 hgb hgbl hGB hb1; have hc1 : w1.cell? ⟨gb, 0, none⟩ = some (.int .i64 0) := (by rw [hGB.cell]; rfl); have hf1 := hGB.frozen 0)
  have hG2 : Arr (w1.setCell ⟨gb, 0, none⟩ (.int .i64 32768)) gb 3 [.int .i64 32768] := hGB.set 0 _
  have hb2 : Below w.heap.size w (w1.setCell ⟨gb, 0, none⟩ (.int .i64 32768)) := hb1.setCell (by simpa using hgb) _
  clear hc1 hf1 hGB hb1
  go_upto_region 6 with (go_at_call 16; refine (fits_any w gb hgb n p c 0 32768 _ hL (by omega) (by omega) (by omega) hG2 hb2).mono ?_; rintro e w3 ⟨r, k', rfl, hG3, hF3, hr3⟩; cases r)
  · go_ret
    exact ⟨rfl, hb2.trans (hF3.below hb2.size (fun x hx e => by omega))⟩
  obtain ⟨hk3, hk3'⟩ := hr3 trivial
  have hcs : c ≤ 32768 := by omega
  have hb3 : Below w.heap.size w w3 := hb2.trans (hF3.below hb2.size (fun x hx e => by omega))
  clear hr3 hk3 hk3' hG3 hF3 hG2 hb2 hgbl
  go_upto_block 0 with (at_make; refine wpList_make_abs rfl _ _ 34 rfl 35 (.pointer none) 8 Try.underlying34 Try.info35 rfl .i64 .i64 len _ _ rfl rfl rfl rfl (by omega) (by omega) ?_; intro gp w4 hgp hgpl hP4 hb4)
  have hb4' : Below w.heap.size w w4 := hb3.trans (hb4.mono hb3.size)
  have hwgp : w.heap.size ≤ gp := Nat.le_trans hb3.size hgp
  clear hb3 hb4 hgp
  -- pre
  go_cut [] (fun wx => ∃ qs, qs.length = len ∧ Arr wx gp 35 (Ptrs qs) ∧ Below w.heap.size w wx)
  case first => as_aux_lemma =>
    go_wp2
    go_loopw [7] (fun i wr => ∃ (k : Nat) (qs : List (Option Addr)), k ≤ len ∧ i = .int .i64 k ∧ qs.length = len ∧ Arr wr gp 35 (Ptrs qs) ∧ Below w.heap.size w wr) (fun i _ => len - (intOf i).toNat)
    case atStart => exact ⟨0, List.replicate len none, Nat.zero_le _, rfl, by simp, by rw [Ptrs_rep]; exact hP4, hb4'⟩
    case round =>
      clear hP4 hb4'
      obtain ⟨k, qs, hk, rfl, hql, hR, hb⟩ := hrel
      by_cases hlt : k < len
      · obtain ⟨b, off, z, rfl, hz⟩ := HPre.out k hlt
        have hz' := cell_later hb hz
        have hki : (k : Int) < (len : Int) := by omega
        go_wp2_with (go_at_call 17; refine (newName_any z _ _).mono ?_; rintro e wx ⟨gx, vsx, rfl, hgx, hX, hp, hbx⟩; have hRx := hR.below hbx hR.lt; have hcx : wx.cell? ⟨gp, k, none⟩ = some (.pointer (qs.getD k none)) := (by rw [hRx.cell]; exact Ptrs_get qs k (by omega)); have hfx := hRx.frozen k)
        go_roundw
        case rel => exact ⟨k + 1, qs.set k (some ⟨gx, 0, none⟩), by omega, by go_num, by simpa using hql, by rw [← Ptrs_set]; exact hRx.set k _, (hb.trans (hbx.mono hb.size)).setCell (by simpa using hwgp) _⟩
        case measure => simp [intOf]; omega
      · go_wp2
        go_meet
        case rel => exact ⟨qs, hql, hR, hb⟩
  obtain ⟨w5, rfl⟩ : ∃ w5, w5 = wc := ⟨_, rfl⟩
  obtain ⟨qs, hql, hP5, hb5⟩ := hcut
  clear hP4 hb4' hgpl
  go_upto_block 2 with (at_make; refine wpList_make_abs rfl _ _ 34 rfl 35 (.pointer none) 8 Try.underlying34 Try.info35 rfl .i64 .i64 len _ _ rfl rfl rfl rfl (by omega) (by omega) ?_; intro gl w6 hgl hgll hL6 hb6)
  have hb6' : Below w.heap.size w w6 := hb5.trans (hb6.mono hb5.size)
  have hwgl : w.heap.size ≤ gl := Nat.le_trans hb5.size hgl
  have hP6 := hP5.below hb6 hP5.lt
  have hgpl : gp < gl := Nat.lt_of_lt_of_le hP5.lt hgl
  clear hb5 hb6 hP5 hgl hgll
  -- list
  go_cut [] (fun wx => Arr wx gl 35 (Ptrs qs) ∧ Arr wx gp 35 (Ptrs qs) ∧ Below w.heap.size w wx)
  case first => as_aux_lemma =>
    go_wp2
    go_loopw [9] (fun i wr => ∃ (k : Nat) (rs : List (Option Addr)), k ≤ len ∧ i = .int .i64 k ∧ rs.length = len ∧ Arr wr gl 35 (Ptrs rs) ∧ Hid (∀ i, i < k → rs[i]? = qs[i]?) ∧ Arr wr gp 35 (Ptrs qs) ∧ Below w.heap.size w wr) (fun i _ => len - (intOf i).toNat)
    case atStart => exact ⟨0, List.replicate len none, Nat.zero_le _, rfl, by simp, by rw [Ptrs_rep]; exact hL6, fun i hi => absurd hi (by omega), hP6, hb6'⟩
    case round =>
      clear hL6 hb6' hP6
      obtain ⟨k, rs, hk, rfl, hrl, hR, HP, hP, hb⟩ := hrel
      by_cases hlt : k < len
      · have hki : (k : Int) < (len : Int) := by omega
        have c1 : wr.cell? ⟨gp, k, none⟩ = some (.pointer (qs.getD k none)) := by rw [hP.cell]; exact Ptrs_get qs k (by omega)
        have c2 : wr.cell? ⟨gl, k, none⟩ = some (.pointer (rs.getD k none)) := by rw [hR.cell]; exact Ptrs_get rs k (by omega)
        have f2 := hR.frozen k
        obtain ⟨X, hX⟩ : ∃ X, X = qs.getD k none := ⟨_, rfl⟩
        rw [← hX] at c1
        have HX : Hid (X = qs.getD k none) := hX
        clear hX
        go_wp2
        go_roundw
        case rel =>
          refine ⟨k + 1, rs.set k X, by omega, by go_num, by simpa using hrl, by rw [← Ptrs_set]; exact hR.set k _, fun i hi => ?_, hP.other (by omega) _, hb.setCell (by simpa using hwgl) _⟩
          by_cases e : i = k
          · subst e; rw [List.getElem?_set_self (by omega), HX.out]; simp [show i < qs.length by omega]
          · rw [List.getElem?_set_ne (by omega)]; exact HP.out i (by omega)
        case measure => simp [intOf]; omega
      · go_wp2
        go_meet
        case rel =>
          have e : rs = qs := by
            apply List.ext_getElem?
            intro i
            by_cases hi : i < len
            · exact HP.out i (by omega)
            · rw [List.getElem?_eq_none (by omega), List.getElem?_eq_none (by omega)]
          rw [e] at hR
          exact ⟨hR, hP, hb⟩
  obtain ⟨w7, rfl⟩ : ∃ w7, w7 = wc := ⟨_, rfl⟩
  obtain ⟨hL7, hP7, hb7⟩ := hcut
  clear hL6 hb6' hP6
  go_upto_region 17 with (refine wpList_alloc_abs rfl 34 rfl _ Try.zero34 ?_; intro gm w8 hgm hgml hGM0 hb8)
  have hGM : Arr w8 gm 34 [.slice none 0 0] := hGM0
  have hb8' : Below w.heap.size w w8 := hb7.trans (hb8.mono hb7.size)
  have hwgm : w.heap.size ≤ gm := Nat.le_trans hb7.size hgm
  have hL8 := hL7.below hb8 hL7.lt
  have hP8 := hP7.below hb8 hP7.lt
  have hglm : gl < gm := Nat.lt_of_lt_of_le hL7.lt hgm
  clear hGM0 hb8 hL7 hP7 hb7
  go_upto_region 18 with (go_at_call 18; refine (build_any w gm hwgm n p c 0 (.slice none 0 0) [] w8 hL hb8' (by omega) hGM (OwnW.nil _ _ _ _)).mono ?_; rintro e w9 ⟨q, m', ns, rfl, hNm, hle, hMd⟩)
  have hb9 : Below w.heap.size w w9 := hb8'.trans (hMd.fr.below hb8'.size (fun x hx h => by
    rcases h with h | h
    · omega
    · simp [Value.ownBlock] at h))
  have hL9 := hMd.fr.arr hL8 (fun h => by
    rcases h with h | h
    · omega
    · simp [Value.ownBlock] at h)
  have hP9 := hMd.fr.arr hP8 (fun h => by
    rcases h with h | h
    · omega
    · simp [Value.ownBlock] at h)
  have hO9 : OwnW w9 w.heap.size 35 1 (.slice (some ⟨gl, 0, none⟩) len len) len (Ptrs qs) := by
    have := OwnW.ofArr hL9 hwgl (by unfold maxLen; rw [Ptrs_length]; omega)
    rw [Ptrs_length, hql] at this
    exact this
  have hrow : ∀ k, m'.ownBlock = some k → k ≠ gl := fun k hk e => by
    rcases hMd.track with h | h
    · rw [h] at hk; simp [Value.ownBlock] at hk
    · have := h k hk
      have := hL8.lt
      omega
  clear hL8 hP8 hGM hb8'
  go_upto_region 19 with (go_at_call 19; refine (zzlist_any w.heap.size _ n q ns (.slice (some ⟨gl, 0, none⟩) len len) len (Ptrs qs) w9 hNm hO9 hb9.size (by omega)).mono ?_; rintro e w10 ⟨lv, rfl, hg⟩)
  have hS : ∀ x, (Value.slice (some ⟨gl, 0, none⟩) len len).ownBlock = some x → x = gl := fun x hx => by simp [Value.ownBlock] at hx; exact hx.symm
  have hb10 : Below w.heap.size w w10 := hb9.trans (hg.fr.below hb9.size (fun x hx h => by have := hS x h; omega))
  have hP10 := hg.fr.arr hP9 (fun h => by have := hS _ h; omega)
  have hV10 := hg.fr.arr hMd.var (fun h => by have := hS _ h; omega)
  have hM10 := hMd.own.fr hg.fr (fun k hk h => hrow k hk (hS k h))
  have hp10 := hMd.places.keep hg.fr (fun x vs h ha => by obtain ⟨_, vs', ha'⟩ := hO9.arr h; exact absurd (Arr.tag ha ha') (by decide))
  have hG10 := hg.own
  clear hg hMd hNm hO9 hrow hb9 hL9 hP9 hS
  obtain ⟨la, lc, rfl⟩ := hG10.shape
  obtain ⟨ma, mc, rfl⟩ := hM10.shape
  simp only [Nat.zero_add, List.nil_append] at hM10 hV10
  obtain ⟨N, hN⟩ : ∃ N, ns.length = N := ⟨_, rfl⟩
  have HNs : Hid (ns.length = N) := hN
  rw [hN] at hG10 hM10 hV10 hle ⊢
  clear hN
  have km : w10.cell? ⟨gm, 0, none⟩ = some (.slice ma N mc) := by rw [hV10.cell]; rfl
  have hql' : (Ptrs qs).length = len := by rw [Ptrs_length, hql]
  go_upto_block 4 with fail
  -- the prefix is as it was
  go_cut [] (fun wx => ∃ d, wx = w10.drewN d)
  case first => as_aux_lemma =>
    go_wp2
    go_loopw [13] (fun i wr => ∃ (k : Nat), k ≤ len ∧ i = .int .i64 k ∧ Hid (∃ d, wr = w10.drewN d)) (fun i _ => len - (intOf i).toNat)
    case atStart => exact ⟨0, Nat.zero_le _, rfl, 0, rfl⟩
    case round =>
      obtain ⟨k, hk, rfl, HD⟩ := hrel
      by_cases hlt : k < len
      · have hGr : OwnW wr w.heap.size 35 1 (.slice la (len + N) lc) (len + N) (Ptrs qs ++ ns) := by obtain ⟨d, rfl⟩ := HD.out; exact hG10
        have hPr : Arr wr gp 35 (Ptrs qs) := by obtain ⟨d, rfl⟩ := HD.out; exact hP10
        obtain ⟨gg, c', e, _, hcl⟩ := hGr.some (by omega)
        obtain ⟨rfl, rfl⟩ : la = some ⟨gg, 0, none⟩ ∧ lc = c' := by simpa using e
        obtain ⟨X, hX⟩ : ∃ X, X = qs.getD k none := ⟨_, rfl⟩
        have c1 : wr.cell? ⟨gg, k, none⟩ = some (.pointer X) := by rw [hcl k (by rw [List.length_append]; omega), List.getElem?_append_left (by omega), Ptrs_get qs k (by omega), hX]
        have c2 : wr.cell? ⟨gp, k, none⟩ = some (.pointer X) := by rw [hPr.cell, Ptrs_get qs k (by omega), hX]
        have i1 : (k : Int) < (len : Int) + (N : Int) := by omega
        have i2 : (k : Int) < (len : Int) := by omega
        have q := neq_same
        clear e hcl hGr hPr hX hG10 hP10 hM10 hV10 hp10 km
        go_upto_region 24 with fail
        go_quiet (fail)
        go_wp2
        go_roundw
        case rel => exact ⟨k + 1, by omega, by go_num, by obtain ⟨m, rfl⟩ := HD.out; exact ⟨m + nq, World.drewN_drewN _ _ _⟩⟩
        case measure => simp [intOf]; omega
      · go_wp2
        go_meet
        case rel => exact HD.out
  obtain ⟨w11, rfl⟩ : ∃ w11, w11 = wc := ⟨_, rfl⟩
  obtain ⟨d, hw11⟩ := hcut
  have hG11 : OwnW w11 w.heap.size 35 1 (.slice la (len + N) lc) (len + N) (Ptrs qs ++ ns) := by rw [hw11]; exact hG10
  have hM11 : OwnW w11 w.heap.size 35 1 (.slice ma N mc) N ns := by rw [hw11]; exact hM10
  have hV11 : Arr w11 gm 34 [.slice ma N mc] := by rw [hw11]; exact hV10
  have hp11 : Places w11 0 ns := by rw [hw11]; exact hp10
  have hb11 : Below w.heap.size w w11 := by rw [hw11]; exact below_drewN hb10 _
  have km11 : w11.cell? ⟨gm, 0, none⟩ = some (.slice ma N mc) := by rw [hV11.cell]; rfl
  clear hw11 hG10 hM10 hV10 hp10 hb10 km hP10
  go_upto_block 6 with (at_make; refine wpList_make_abs rfl _ _ 41 rfl 4 (.bool false) 1 Try.underlying41 Try.inf4 rfl .i64 .i64 N _ _ rfl rfl rfl rfl (by omega) (by omega) ?_; intro gs w12 hgs hgsl hS12 hb12)
  have HG11 : Hid (OwnW w11 w.heap.size 35 1 (.slice la (len + N) lc) (len + N) (Ptrs qs ++ ns)) := hG11
  have HM11 : Hid (OwnW w11 w.heap.size 35 1 (.slice ma N mc) N ns) := hM11
  have HV11 : Hid (Arr w11 gm 34 [.slice ma N mc]) := hV11
  have HP11 : Hid (Places w11 0 ns) := hp11
  clear hG11 hM11 hV11 hp11 km11
  -- every name made is listed once
  go_cut [] (fun wx => Below w11.heap.size w11 wx)
  case first => as_aux_lemma =>
    go_wp2
    go_loopw [15, 16, 17] (fun i _ _ wr => ∃ (r t : Nat) (vs : List Value), t ≤ N ∧ len + t ≤ r ∧ r ≤ len + t ∧ i = .int .i64 r ∧ vs.length = N ∧ Arr wr gs 4 vs ∧ Hid (∀ i, t ≤ i → i < N → vs[i]? = some (.bool false)) ∧ Below w11.heap.size w11 wr) (fun i _ _ _ => len + N - (intOf i).toNat)
    case atStart => exact ⟨len, 0, List.replicate N (.bool false), Nat.zero_le _, Nat.le_refl _, Nat.le_refl _, rfl, by simp, hS12, fun i _ hi => by simp [hi], hb12⟩
    case round =>
      clear hS12 hb12
      obtain ⟨r, t, vs, ht, hr1, hr2, rfl, hvl, hR, HF, hb⟩ := hrel
      by_cases hlt : t < N
      · have hF := Fr.ofBelow (S := fun _ => False) hb
        obtain ⟨gg, c', e, _, hcl⟩ := (HG11.out.fr hF (fun _ _ h => h)).some (by omega)
        obtain ⟨rfl, rfl⟩ : la = some ⟨gg, 0, none⟩ ∧ lc = c' := by simpa using e
        obtain ⟨g2, c2', e2, _, hcl2⟩ := (HM11.out.fr hF (fun _ _ h => h)).some (by omega)
        obtain ⟨rfl, rfl⟩ : ma = some ⟨g2, 0, none⟩ ∧ mc = c2' := by simpa using e2
        obtain ⟨x, vx, n1, n2, n3⟩ := (HP11.out.keep hF (fun _ _ h => h.elim)) t (by have := HNs.out; omega)
        have hnsl := HNs.out
        have kx : wr.cell? ⟨x, 5, none⟩ = some (.int .i64 (t : Nat)) := by rw [n2.cell, n3, Nat.zero_add]
        have k1 : wr.cell? ⟨gg, r, none⟩ = some (.pointer (some ⟨x, 0, none⟩)) := by rw [hcl r (by rw [List.length_append]; omega), List.getElem?_append_right (by omega), ← n1]; congr 1; omega
        have k2 : wr.cell? ⟨g2, t, none⟩ = some (.pointer (some ⟨x, 0, none⟩)) := by rw [hcl2 t (by omega), n1]
        have k3 : wr.cell? ⟨gs, t, none⟩ = some (.bool false) := by rw [hR.cell]; exact HF.out t (Nat.le_refl _) hlt
        have f3 := hR.frozen t
        have km : wr.cell? ⟨gm, 0, none⟩ = some (.slice (some ⟨g2, 0, none⟩) N mc) := by rw [(hF.arr HV11.out (fun h => h)).cell]; rfl
        have i1 : (r : Int) < (len : Int) + (N : Int) := by omega
        have i2 : (t : Int) < (N : Int) := by omega
        have i3 : ¬ (t : Int) < 0 := by omega
        have i4 : ¬ (N : Int) ≤ (t : Int) := by omega
        have q := neq_same
        clear e e2 hcl hcl2 n1 n2 n3 hnsl hF
        go_wp2_with (go_at_call 20; refine (namePlace_any x (t : Int) wr kx).mono ?_; rintro e w' ⟨rfl, rfl⟩)
        go_roundw
        case rel =>
          refine ⟨r + 1, t + 1, vs.set t (.bool true), by omega, by omega, by omega, by go_num, by simpa using hvl, hR.set t _, fun i hi hi' => ?_, hb.setCell (by simpa using hgs) _⟩
          rw [List.getElem?_set_ne (by omega)]
          exact HF.out i (by omega) hi'
        case measure => simp [intOf]; omega
      · have i1 : ¬ (r : Int) < (len : Int) + (N : Int) := by omega
        go_wp2
        go_meet
        case rel => exact hb
  obtain ⟨w13, rfl⟩ : ∃ w13, w13 = wc := ⟨_, rfl⟩
  have hb13 : Below w.heap.size w w13 := hb11.trans (hcut.mono hb11.size)
  clear hcut
  go_wp2
  go_ret
  exact ⟨rfl, hb13⟩
end Go.Proofs.Qxb6619225a
