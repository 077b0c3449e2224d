/-
  osaShortestPath: the walk.
-/
import Derived.Test.Qxb6619225aLink
namespace Go.Proofs.Qxb6619225a
set_option linter.unusedVariables false
open Go.RowKit Mem

theorem Try.info4 : (Try.prog.info? 4).map (fun i => (i.zero, i.size, i.bytes)) = some (some (.bool false), 1, 1) := by kernel_rfl

theorem cnt_none : ∀ T, cnt (fun _ => false) T = 0
  | 0 => rfl
  | T + 1 => by simp only [cnt]; rw [cnt_none T]; rfl

def C3 (n m i j : Nat) : Bool := decide (i < n) && decide (j < m)
theorem C3_true {n m i j : Nat} (h1 : i < n) (h2 : j < m) : C3 n m i j = true := by simp [C3, h1, h2]
theorem C3_falseI {n m i j : Nat} (h1 : ¬ i < n) : C3 n m i j = false := by simp [C3, h1]
theorem C3_falseJ {n m i j : Nat} (h1 : ¬ j < m) : C3 n m i j = false := by simp [C3, h1]
theorem C3_out {n m i j : Nat} (h : C3 n m i j = true) : i < n ∧ j < m := by simpa [C3] using h
def C4 (a b : List Int) (n m i j : Nat) : Bool := decide (i + 1 < n) && (decide (j + 1 < m) && ((a.getD i 0 == b.getD (j + 1) 0) && (a.getD (i + 1) 0 == b.getD j 0)))
theorem C4_true {a b : List Int} {n m i j : Nat} (h1 : i + 1 < n) (h2 : j + 1 < m) (h3 : a.getD i 0 = b.getD (j + 1) 0) (h4 : a.getD (i + 1) 0 = b.getD j 0) : C4 a b n m i j = true := by unfold C4; rw [h3, h4]; simp [h1, h2]
theorem C4_out {a b : List Int} {n m i j : Nat} (h : C4 a b n m i j = true) : i + 1 < n ∧ j + 1 < m ∧ a.getD i 0 = b.getD (j + 1) 0 ∧ a.getD (i + 1) 0 = b.getD j 0 := by
  unfold C4 at h
  simp only [Bool.and_eq_true, decide_eq_true_eq, beq_iff_eq] at h
  exact h

set_option maxRecDepth 20000 in
set_option maxHeartbeats 20000000 in
theorem osa_any (pa pb : Option Addr) (ca cb : Nat) (a b : List Int) (w : World) (hA : Rd w pa a.length a) (hB : Rd w pb b.length b) (h1 : a.length ≤ 256) (h2 : b.length ≤ 256) :
    Calls Try.prog 9 #[.slice pa a.length ca, .slice pb b.length cb] w fun e w' => e = .returned (.int .i64 (dist a b : Nat)) ∧ Below w.heap.size w w' := by
  obtain ⟨T, hT⟩ : ∃ T, T = (a.length + 1) * (b.length + 1) := ⟨_, rfl⟩
  have hTs : T ≤ 66049 := by rw [hT]; exact Nat.le_trans (Nat.mul_le_mul (show a.length + 1 ≤ 257 by omega) (show b.length + 1 ≤ 257 by omega)) (by decide)
  have hTp : 0 < T := by rw [hT]; exact Nat.mul_pos (by omega) (by omega)
  have hTi : ((a.length : Int) + 1) * ((b.length : Int) + 1) = (T : Int) := by rw [hT]; push_cast; rfl
  have hw1 : IntKind.i64.wrap (((a.length : Int) + 1) * ((b.length : Int) + 1)) = (T : Int) := by rw [hTi, IntKind.wrap_i64]; omega
  have HT : Hid (T = (a.length + 1) * (b.length + 1)) := hT
  clear hT hTi
  go_enter Try.func9, Try.ntmps9
  go_upto_block 0 with (at_make; refine wpList_make_abs rfl _ _ 44 rfl 3 (.int .i64 0) 8 Try.underlying44 Try.info3 rfl .i64 .i64 T _ _ rfl rfl rfl rfl (by omega) (by omega) ?_; intro gd w1 hgd hgdl hArrD hb1)
  -- the row of distances is filled
  go_cut [] (fun wx => Arr wx gd 3 (V64 (List.replicate T ((a.length + b.length + 1 : Nat) : Int))) ∧ Below w.heap.size w wx)
  case first => as_aux_lemma =>
    go_wp2
    go_loopw [11] (fun i wr => ∃ (k : Nat) (vs : List Value), k ≤ T ∧ i = .int .i64 k ∧ vs.length = T ∧ Arr wr gd 3 vs ∧ Hid (∀ i, i < k → vs[i]? = some (.int .i64 ((a.length + b.length + 1 : Nat) : Int))) ∧ Below w.heap.size w wr) (fun i _ => T - (intOf i).toNat)
    case atStart => exact ⟨0, _, Nat.zero_le _, rfl, by simp, hArrD, fun i hi => absurd hi (by omega), hb1⟩
    case round => as_aux_lemma =>
      obtain ⟨k, vs, hk, rfl, hvl, hR, HP, hb⟩ := hrel
      by_cases hlt : k < T
      · have hcg : wr.cell? ⟨gd, k, none⟩ = some (vs[k]'(by omega)) := by rw [hR.cell]; exact List.getElem?_eq_getElem (by omega)
        have hfg := hR.frozen k
        clear hA hB hArrD
        go_wp2
        go_roundw
        case rel =>
          refine ⟨k + 1, _, by omega, by go_num, by simpa using hvl, hR.set k _, fun i hi => ?_, hb.setCell (by simpa using hgd) _⟩
          by_cases e : i = k
          · subst e; rw [List.getElem?_set_self (by omega)]; rfl
          · rw [List.getElem?_set_ne (by omega)]; exact HP.out i (by omega)
        case measure => simp [intOf]; omega
      · go_wp2
        go_meet
        case rel =>
          refine ⟨?_, hb⟩
          have e : vs = V64 (List.replicate T ((a.length + b.length + 1 : Nat) : Int)) := by
            apply List.ext_getElem?
            intro i
            by_cases hi : i < T
            · rw [HP.out i (by omega), V64_get _ _ (by simpa using hi)]
              simp [hi]
            · rw [List.getElem?_eq_none (by omega), List.getElem?_eq_none (by rw [V64_length]; simpa using hi)]
          rw [← e]; exact hR
  obtain ⟨w2, rfl⟩ : ∃ w2, w2 = wc := ⟨_, rfl⟩
  obtain ⟨hD2, hb2⟩ := hcut
  clear hArrD hb1
  -- the row of what is done, the waiting row
  have hD0 : w2.cell? ⟨gd, 0, none⟩ = some (.int .i64 ((a.length + b.length + 1 : Nat) : Int)) := by rw [hD2.cell, V64_get _ _ (by simpa using hTp)]; simp [hTp]
  have hDl := hD2.lt
  go_upto_region 16 with (first
    | (at_make; refine wpList_make_abs rfl _ _ 41 rfl 4 (.bool false) 1 Try.underlying41 Try.info4 rfl .i64 .i64 T _ _ rfl rfl rfl rfl (by omega) (by omega) ?_; intro gn w3 hgn hgnl hN3 hb3)
    | (at_make; refine wpList_make_abs rfl _ _ 44 rfl 3 (.int .i64 0) 8 Try.underlying44 Try.info3 rfl .i64 .i64 (2 * (4 * T + 1) + 1) _ _ rfl rfl rfl rfl (by omega) (by omega) ?_; intro gq w4 hgq hgql hQ4 hb4))
  have hD4 := (hD2.below hb3 hDl).below hb4 (Nat.lt_of_lt_of_le hDl hb3.size)
  have hN4 := hN3.below hb4 hgnl
  have hQ4' : Arr w4 gq 3 (V64 (List.replicate (2 * (4 * T + 1) + 1) 0)) := by
    have e : V64 (List.replicate (2 * (4 * T + 1) + 1) 0) = List.replicate (2 * (4 * T + 1) + 1) (.int .i64 0) := by simp [V64]
    rw [e]; exact hQ4
  have n1 : gd < gn := by omega
  have n2 : gn < gq := by omega
  have hb4' : Below w.heap.size w w4 := hb2.trans ((hb3.trans (hb4.mono hb3.size)).mono hb2.size)
  have h3 : Three w4 gq gd gn (List.replicate (2 * (4 * T + 1) + 1) 0) (List.replicate T ((a.length + b.length + 1 : Nat) : Int)) (List.replicate T (.bool false)) := ⟨hQ4', hD4, hN4, by omega, by omega, by omega⟩
  have hwgq : w.heap.size ≤ gq := by omega
  have hwgn : w.heap.size ≤ gn := by omega
  clear hD0 hD2 hDl hN3 hb3 hQ4 hb4 hb2 hD4 hN4 hQ4' hgnl hgql hgn hgq hgdl
  have c1 : w4.cell? ⟨gd, 0, none⟩ = some (.int .i64 ((a.length + b.length + 1 : Nat) : Int)) := by rw [h3.rd.cell, V64_get _ _ (by simpa using hTp)]; simp [hTp]
  have f1 := h3.rd.frozen 0
  have h3' := (h3.setD 0 0)
  have c2 : (w4.setCell ⟨gd, 0, none⟩ (.int .i64 0)).cell? ⟨gq, 4 * T + 1, none⟩ = some (.int .i64 0) := by
    rw [h3'.rq.cell, V64_get _ _ (by rw [List.length_replicate]; omega), List.getD_eq_getElem?_getD, List.getElem?_replicate]; split <;> rfl
  have f2 := h3'.rq.frozen (4 * T + 1)
  have h4 := h3'.setQ (4 * T + 1) 0
  have hb5 : Below w.heap.size w ((w4.setCell ⟨gd, 0, none⟩ (.int .i64 0)).setCell ⟨gq, 4 * T + 1, none⟩ (.int .i64 0)) := (hb4'.setCell (by simpa using hgd) _).setCell (by simpa using hwgq) _
  have k1 : (4 * (T : Int) + 1) < ((2 * (4 * T + 1) + 1 : Nat) : Int) := by omega
  clear h3 h3' hb4'
  go_upto_block 2 with fail
  obtain ⟨w6, hw6⟩ : ∃ w6, w6 = ((w4.setCell ⟨gd, 0, none⟩ (.int .i64 0)).setCell ⟨gq, 4 * T + 1, none⟩ (.int .i64 0)) := ⟨_, rfl⟩
  rw [← hw6] at h4 hb5 ⊢
  clear hw6 c1 f1 c2 f2 k1
  obtain ⟨Lq, hLq⟩ : ∃ Lq, Lq = 2 * (4 * T + 1) + 1 := ⟨_, rfl⟩
  rw [← hLq] at h4 ⊢
  have hLq1 : Lq ≤ 2 * (4 * T + 1) + 1 := by omega
  have hLq2 : 2 * (4 * T + 1) + 1 ≤ Lq := by omega
  have G : Graph T (a.length + b.length + 1) (gridD a b b.length) (gridE a b a.length b.length) := by rw [HT.out]; exact grid a b a.length b.length
  have hS : St T (a.length + b.length + 1) (gridD a b b.length) w6 gq gd gn Lq (fun _ => false) 0 (fun x => if x = 0 then 0 else a.length + b.length + 1) [(0, 0)] (4 * T + 1) (4 * T + 2) := by
    refine ⟨_, _, _, h4, by simp, ⟨by simp, fun x hx => ?_, by simp, fun x hx => by simp [hx], rfl, fun i hi => ?_⟩, Mid.start G⟩
    · rw [set_getD _ 0 x _ (by simpa using hTp)]
      by_cases e : x = 0
      · rw [if_pos e, if_pos e]; rfl
      · rw [if_neg e, if_neg e]; simp [hx]
    · obtain rfl : i = 0 := by simpa using hi
      rw [set_getD _ (4 * T + 1) _ _ (by rw [List.length_replicate]; omega), if_pos (Nat.add_zero _)]; rfl
  have HG : Hid (Graph T (a.length + b.length + 1) (gridD a b b.length) (gridE a b a.length b.length)) := G
  clear h4 G hLq
  go_cut [] (fun wx => wx.cell? ⟨gd, T - 1, none⟩ = some (.int .i64 (dist a b : Nat)) ∧ Below w.heap.size w wx)
  case first => as_aux_lemma =>
    go_wp2
    go_loopw [15, 16, 17, 18, 19, 20] (fun h t _ _ _ _ wr => ∃ (head tail c : Nat), h = .int .i64 head ∧ t = .int .i64 tail ∧ head ≤ tail ∧ c ≤ T ∧ 4 * T + 1 ≤ head + 4 * c ∧ tail ≤ 4 * T + 2 + 4 * c ∧ Below w.heap.size w wr ∧ Hid (cntW wr gn T = c) ∧
      Hid (∃ dn k dlf q, St T (a.length + b.length + 1) (gridD a b b.length) wr gq gd gn Lq dn k dlf q head tail ∧ (∀ x, x < T → dn x = true → Relaxed (gridE a b a.length b.length) dlf x))) (fun h t _ _ _ _ wr => 6 * (T - cntW wr gn T) + ((intOf t).toNat - (intOf h).toNat))
    case atStart => exact ⟨4 * T + 1, 4 * T + 2, 0, by go_num, by go_num, by omega, by omega, by omega, by omega, hb5, by rw [hS.cntW]; exact cnt_none T, _, _, _, _, hS, fun x _ h => by cases h⟩
    case round => as_aux_lemma =>
      clear hS hb5
      obtain ⟨head, tail, c, rfl, rfl, hle, hcT, hbh, hbt, hb, HC, HS⟩ := hrel
      by_cases hlt : head < tail
      · obtain ⟨dn, k, dlf, q, hSt, R⟩ := HS.out
        obtain ⟨v, d, hv, hdi, c1, c2, f2, c3, P1, P2⟩ := hSt.pop HG.out R hlt (by omega)
        have hcc : cntW wr gn T = cnt dn T := hSt.cntW
        have hvi : (v : Int) < (T : Int) := by omega
        have hhi : (head : Int) < (Lq : Int) := by omega
        cases hdn : dn v with
        | true => as_aux_lemma =>
          rw [hdn] at c2
          have P : ∃ q', St T (a.length + b.length + 1) (gridD a b b.length) wr gq gd gn Lq dn k dlf q' (head + 1) tail := P1 hdn
          have HP : Hid (∃ dn k dlf q, St T (a.length + b.length + 1) (gridD a b b.length) wr gq gd gn Lq dn k dlf q (head + 1) tail ∧ (∀ x, x < T → dn x = true → Relaxed (gridE a b a.length b.length) dlf x)) := by
            obtain ⟨q', hq'⟩ := P
            exact ⟨_, _, _, _, hq', R⟩
          clear P P1 P2 R hSt c3 hdn hcc hA hB
          go_wp2
          go_roundw
          case rel => exact ⟨head + 1, tail, c, by go_num, rfl, by omega, hcT, by omega, hbt, hb, HC, HP⟩
          case measure => simp [intOf]; omega
        | false => as_aux_lemma =>
          rw [hdn] at c2
          obtain ⟨hd, hcT1, q1, hS1⟩ := P2 hdn
          obtain ⟨i, j, hvij, hj⟩ := grid_split b.length v
          have hi : i ≤ a.length := by have := hv; rw [HT.out, hvij] at this; exact grid_row this
          obtain ⟨P, hP⟩ : ∃ P, P = i * (b.length + 1) := ⟨_, rfl⟩
          have hvP : v = P + j := by rw [hP]; exact hvij
          have hquo : Int.tdiv (v : Int) ((b.length : Int) + 1) = (i : Int) := by
            have e : ((b.length : Int) + 1) = ((b.length + 1 : Nat) : Int) := by push_cast; rfl
            rw [e, ← Int.ofNat_tdiv, hvij, grid_div b.length i j hj]
          have hmul : IntKind.i64.wrap ((i : Int) * ((b.length : Int) + 1)) = (P : Int) := by
            have e : (i : Int) * ((b.length : Int) + 1) = (P : Int) := by rw [hP]; push_cast; rfl
            rw [e, IntKind.wrap_i64]; omega
          have HV : Hid (v = i * (b.length + 1) + j) := hvij
          have hv1 : P + j ≤ v := by omega
          have hv2 : v ≤ P + j := by omega
          have hsub : (v : Int) - (P : Int) = (j : Int) := by omega
          have HK : Hid (gridD a b b.length v = d) := by
            obtain ⟨_, _, _, _, _, _, M⟩ := hS1
            show _ = d
            rw [← M.isDone v hv (by simp), hd]
          have HD0 : Hid (∀ x, x < T → dn x = true → dlf x = gridD a b b.length x) := by
            obtain ⟨_, _, _, _, _, _, M⟩ := hSt
            exact M.isDone
          have HDN : Hid (dn v = false) := hdn
          have HR : Hid (∀ x, x < T → dn x = true → Relaxed (gridE a b a.length b.length) dlf x) := R
          have HS8 : Hid (Step T (a.length + b.length + 1) (gridD a b b.length) gq gd gn Lq (fun x => if x = v then true else dn x) d dlf (fun _ => True) (wr.setCell ⟨gn, v, none⟩ (.bool true)) (head + 1) tail) := ⟨dlf, q1, hS1, trivial, fun _ => Nat.le_refl _⟩
          have HCC : Hid (cntW wr gn T = cnt dn T) := hcc
          have hc1 : c + 1 ≤ T := by have := HC.out; omega
          have HE : Hid (∀ u c, ((i < a.length ∧ u = v + (b.length + 1) ∧ c = 1) ∨ (j < b.length ∧ u = v + 1 ∧ c = 1) ∨ (i < a.length ∧ j < b.length ∧ u = v + (b.length + 1) + 1 ∧ c = cost a b i j) ∨ (i + 1 < a.length ∧ j + 1 < b.length ∧ a.getD i 0 = b.getD (j + 1) 0 ∧ a.getD (i + 1) 0 = b.getD j 0 ∧ u = v + 2 * (b.length + 1) + 2 ∧ c = 1)) → gridE a b a.length b.length v u c ∧ (u < T ∧ c ≤ 1)) := fun u c h => by
            have hE : gridE a b a.length b.length v u c := ⟨i, j, HV.out, hj, h⟩
            refine ⟨hE, ?_⟩
            have hv' := hv
            rw [HT.out] at hv' ⊢
            exact gridE_lt hv' hE
          clear hP hvij P1 P2 hdn hvP R hSt hS1 hcc hd
          have hb8 : Below w.heap.size w (wr.setCell ⟨gn, v, none⟩ (.bool true)) := hb.setCell (by simpa using hwgn) _
          have hBB : w.heap.size ≤ gq ∧ w.heap.size ≤ gd := ⟨hwgq, hgd⟩
          go_upto_if 94 with fail
          obtain ⟨w8, hw8⟩ : ∃ w8, w8 = wr.setCell ⟨gn, v, none⟩ (.bool true) := ⟨_, rfl⟩
          rw [← hw8] at HS8 hb8 ⊢
          clear hw8 c1 c2 f2 c3 hb
          -- the first edge
          go_cut [15, 16] (fun h t wx => ∃ (h' t' : Nat), h = .int .i64 h' ∧ t = .int .i64 t' ∧ head + 1 ≤ h' + 1 ∧ t' ≤ tail + 1 ∧ h' ≤ head + 1 ∧ t' + (head + 1) ≤ tail + h' + 1 ∧ Below w.heap.size w wx ∧ Hid (Step T (a.length + b.length + 1) (gridD a b b.length) gq gd gn Lq (fun x => if x = v then true else dn x) d dlf (F1 a.length b.length v d i) wx h' t'))
          case first => as_aux_lemma =>
            by_cases hin : i < a.length
            · obtain ⟨he, hu⟩ := HE.out (v + (b.length + 1)) 1 (.inl ⟨hin, rfl, rfl⟩)
              have hu' := hu.1
              have e1 : Hid ((d : Int) + 1 = ((d + 1 : Nat) : Int)) := by show _ = _; push_cast; rfl
              have e2 : Hid ((v : Int) + ((b.length : Int) + 1) = ((v + (b.length + 1) : Nat) : Int)) := by show _ = _; push_cast; rfl
              have e3 : Hid ((head : Int) + 1 = ((head + 1 : Nat) : Int)) := by show _ = _; push_cast; rfl
              have e4 : 0 < head + 1 := by omega
              have e5 : head + 1 < Lq := by omega
              have e6 : tail < Lq := by omega
              have e7 : Lq ≤ 1000000 := by omega
              have e8 : T ≤ 1000000 := by omega
              have e9 : (fun x => if x = v then true else dn x) v = true := by simp
              go_wp2_with (go_at_call 22; refine (relax_stepI HG.out gq gd gn Lq _ d dlf _ Low.true (head + 1) tail v (v + (b.length + 1)) 1 false _ _ _ _ _ w.heap.size HS8.out hBB hv e9 HK.out hu he rfl e1.out e2.out e3.out rfl e4 e5 e6 e7 e8).mono ?_; rintro e wx ⟨h', t', rfl, b1, b2, b3, b4, hbx, HX⟩)
              go_meet
              case rel => exact ⟨h', t', rfl, rfl, by omega, by omega, by omega, by omega, hb8.trans hbx, HX.out.weak fun f hf _ => hf.2⟩
            · go_wp2
              go_meet
              case rel => exact ⟨head + 1, tail, by go_num, rfl, by omega, by omega, by omega, by omega, hb8, HS8.out.weak fun f _ h => absurd h hin⟩
          obtain ⟨w9, rfl⟩ : ∃ w, w = wc := ⟨_, rfl⟩
          obtain ⟨H1, T1, rfl, rfl, p1, p2, p3, p4, hb1, HS1⟩ := hcut
          clear HS8 hb8
          go_upto_if 110 with fail
          go_cut [15, 16] (fun h t wx => ∃ (h' t' : Nat), h = .int .i64 h' ∧ t = .int .i64 t' ∧ head + 1 ≤ h' + 2 ∧ t' ≤ tail + 2 ∧ h' ≤ head + 1 ∧ t' + (head + 1) ≤ tail + h' + 2 ∧ Below w.heap.size w wx ∧ Hid (Step T (a.length + b.length + 1) (gridD a b b.length) gq gd gn Lq (fun x => if x = v then true else dn x) d dlf (fun f => F1 a.length b.length v d i f ∧ F2 b.length v d j f) wx h' t'))
          case first => as_aux_lemma =>
            by_cases hjm : j < b.length
            · obtain ⟨he, hu⟩ := HE.out (v + 1) 1 (.inr (.inl ⟨hjm, rfl, rfl⟩))
              have hu' := hu.1
              have e1 : Hid ((d : Int) + 1 = ((d + 1 : Nat) : Int)) := by show _ = _; push_cast; first | rfl | omega
              have e2 : Hid ((v : Int) + 1 = ((v + 1 : Nat) : Int)) := by show _ = _; push_cast; first | rfl | omega
              have e4 : 0 < H1 := by omega
              have e5 : H1 < Lq := by omega
              have e6 : T1 < Lq := by omega
              have e7 : Lq ≤ 1000000 := by omega
              have e8 : T ≤ 1000000 := by omega
              have e9 : (fun x => if x = v then true else dn x) v = true := by simp
              go_wp2_with (go_at_call 22; refine (relax_stepI HG.out gq gd gn Lq _ d dlf _ (F1.low _ _ _ _ _) H1 T1 v (v + 1) 1 false _ _ _ _ _ w.heap.size HS1.out hBB hv e9 HK.out hu he rfl e1.out e2.out rfl rfl e4 e5 e6 e7 e8).mono ?_; rintro e wx ⟨h', t', rfl, b1, b2, b3, b4, hbx, HX⟩)
              go_meet
              case rel => exact ⟨h', t', rfl, rfl, by omega, by omega, by omega, by omega, hb1.trans hbx, HX.out.weak fun f hf => ⟨hf.1, fun _ => hf.2⟩⟩
            · go_wp2
              go_meet
              case rel => exact ⟨H1, T1, rfl, rfl, by omega, by omega, by omega, by omega, hb1, HS1.out.weak fun f hf => ⟨hf, fun h => absurd h hjm⟩⟩
          obtain ⟨w10, rfl⟩ : ∃ w, w = wc := ⟨_, rfl⟩
          clear HS1 hb1 p1 p2 p3 p4
          obtain ⟨H2, T2, rfl, rfl, p1, p2, p3, p4, hb2, HS2⟩ := hcut
          go_upto_region 31 with fail
          go_cut [130] (fun s wx => s = .bool (C3 a.length b.length i j) ∧ w10 = wx)
          case first => as_aux_lemma =>
            clear HS2 hb2
            by_cases hin : i < a.length
            · have i1 : (i : Int) < (a.length : Int) := by omega
              by_cases hjm : j < b.length
              · have i2 : (j : Int) < (b.length : Int) := by omega
                have HC3 : Hid (C3 a.length b.length i j = true) := C3_true hin hjm
                go_wp2_with fail
                go_meet
                case rel => exact ⟨by rw [HC3.out], rfl⟩
              · have i2 : ¬ (j : Int) < (b.length : Int) := by omega
                have HC3 : Hid (C3 a.length b.length i j = false) := C3_falseJ hjm
                go_wp2_with fail
                go_meet
                case rel => exact ⟨by rw [HC3.out], rfl⟩
            · have i1 : ¬ (i : Int) < (a.length : Int) := by omega
              have HC3 : Hid (C3 a.length b.length i j = false) := C3_falseI hin
              go_wp2_with fail
              go_meet
              case rel => exact ⟨by rw [HC3.out], rfl⟩
          obtain ⟨rfl, rfl⟩ := hcut
          go_upto_if 130 with fail
          go_cut [15, 16] (fun h t wx => ∃ (h' t' : Nat), h = .int .i64 h' ∧ t = .int .i64 t' ∧ head + 1 ≤ h' + 3 ∧ t' ≤ tail + 3 ∧ h' ≤ head + 1 ∧ t' + (head + 1) ≤ tail + h' + 3 ∧ Below w.heap.size w wx ∧ Hid (Step T (a.length + b.length + 1) (gridD a b b.length) gq gd gn Lq (fun x => if x = v then true else dn x) d dlf (fun f => (F1 a.length b.length v d i f ∧ F2 b.length v d j f) ∧ F3 a b a.length b.length v d i j f) wx h' t'))
          case first => as_aux_lemma =>
            cases hc3 : C3 a.length b.length i j with
            | true => as_aux_lemma =>
              obtain ⟨hin, hjm⟩ := C3_out hc3
              obtain ⟨ab, aoff, rfl, hAc⟩ := (hA.below hb2).cell hin
              obtain ⟨bb, boff, rfl, hBc⟩ := (hB.below hb2).cell hjm
              have hcA := hAc i hin
              have hcB := hBc j hjm
              obtain ⟨X, eX⟩ : ∃ X, X = a.getD i 0 := ⟨_, rfl⟩
              obtain ⟨Y, eY⟩ : ∃ Y, Y = b.getD j 0 := ⟨_, rfl⟩
              rw [← eX] at hcA
              rw [← eY] at hcB
              have HX0 : Hid (X = a.getD i 0) := eX
              have HY0 : Hid (Y = b.getD j 0) := eY
              have i1 : (i : Int) < (a.length : Int) := by omega
              have i2 : (j : Int) < (b.length : Int) := by omega
              clear eX eY hAc hBc
              cases hxy : (X == Y) with
              | true => as_aux_lemma =>
                have hc0 : cost a b i j = 0 := by unfold cost; rw [← HX0.out, ← HY0.out, hxy]; rfl
                have HC0 : Hid (cost a b i j = 0) := hc0
                obtain ⟨he, hu⟩ := HE.out (v + (b.length + 1) + 1) 0 (.inr (.inr (.inl ⟨hin, hjm, rfl, hc0.symm⟩)))
                clear hc0
                go_upto_region 32 with fail
                go_quiet (fail)
                generalize hw11 : w10.drewN nq = w11
                have HS11 : Hid (Step T (a.length + b.length + 1) (gridD a b b.length) gq gd gn Lq (fun x => if x = v then true else dn x) d dlf (fun f => F1 a.length b.length v d i f ∧ F2 b.length v d j f) w11 H2 T2) := by rw [← hw11]; exact HS2.out.drewN nq
                have hb11 : Below w.heap.size w w11 := by rw [← hw11]; exact below_drewN hb2 _
                clear hw11 HS2 hb2 hcA hcB
                have hu' := hu.1
                have e1 : Hid ((d : Int) = ((d + 0 : Nat) : Int)) := by show _ = _; push_cast; first | rfl | omega
                have e2 : Hid ((v : Int) + ((b.length : Int) + 1) + 1 = ((v + (b.length + 1) + 1 : Nat) : Int)) := by show _ = _; push_cast; first | rfl | omega
                have e4 : 0 < H2 := by omega
                have e5 : H2 < Lq := by omega
                have e6 : T2 < Lq := by omega
                have e7 : Lq ≤ 1000000 := by omega
                have e8 : T ≤ 1000000 := by omega
                have e9 : (fun x => if x = v then true else dn x) v = true := by simp
                go_wp2_with (go_at_call 22; refine (relax_stepI HG.out gq gd gn Lq _ d dlf _ ((F1.low _ _ _ _ _).and (F2.low _ _ _ _)) H2 T2 v (v + (b.length + 1) + 1) 0 true _ _ _ _ _ w.heap.size HS11.out hBB hv e9 HK.out hu he rfl e1.out e2.out rfl rfl e4 e5 e6 e7 e8).mono ?_; rintro e wx ⟨h', t', rfl, b1, b2, b3, b4, hbx, HX⟩)
                go_meet
                case rel => exact ⟨h', t', rfl, rfl, by omega, by omega, by omega, by omega, hb11.trans hbx, HX.out.weak fun f hf => ⟨hf.1, fun _ _ => by rw [HC0.out]; exact hf.2⟩⟩
              | false => as_aux_lemma =>
                have hc0 : cost a b i j = 1 := by unfold cost; rw [← HX0.out, ← HY0.out, hxy]; rfl
                have HC0 : Hid (cost a b i j = 1) := hc0
                obtain ⟨he, hu⟩ := HE.out (v + (b.length + 1) + 1) 1 (.inr (.inr (.inl ⟨hin, hjm, rfl, hc0.symm⟩)))
                clear hc0
                go_upto_region 32 with fail
                go_quiet (fail)
                generalize hw11 : w10.drewN nq = w11
                have HS11 : Hid (Step T (a.length + b.length + 1) (gridD a b b.length) gq gd gn Lq (fun x => if x = v then true else dn x) d dlf (fun f => F1 a.length b.length v d i f ∧ F2 b.length v d j f) w11 H2 T2) := by rw [← hw11]; exact HS2.out.drewN nq
                have hb11 : Below w.heap.size w w11 := by rw [← hw11]; exact below_drewN hb2 _
                clear hw11 HS2 hb2 hcA hcB
                have hu' := hu.1
                have e1 : Hid ((d : Int) + 1 = ((d + 1 : Nat) : Int)) := by show _ = _; push_cast; first | rfl | omega
                have e2 : Hid ((v : Int) + ((b.length : Int) + 1) + 1 = ((v + (b.length + 1) + 1 : Nat) : Int)) := by show _ = _; push_cast; first | rfl | omega
                have e4 : 0 < H2 := by omega
                have e5 : H2 < Lq := by omega
                have e6 : T2 < Lq := by omega
                have e7 : Lq ≤ 1000000 := by omega
                have e8 : T ≤ 1000000 := by omega
                have e9 : (fun x => if x = v then true else dn x) v = true := by simp
                go_wp2_with (go_at_call 22; refine (relax_stepI HG.out gq gd gn Lq _ d dlf _ ((F1.low _ _ _ _ _).and (F2.low _ _ _ _)) H2 T2 v (v + (b.length + 1) + 1) 1 false _ _ _ _ _ w.heap.size HS11.out hBB hv e9 HK.out hu he rfl e1.out e2.out rfl rfl e4 e5 e6 e7 e8).mono ?_; rintro e wx ⟨h', t', rfl, b1, b2, b3, b4, hbx, HX⟩)
                go_meet
                case rel => exact ⟨h', t', rfl, rfl, by omega, by omega, by omega, by omega, hb11.trans hbx, HX.out.weak fun f hf => ⟨hf.1, fun _ _ => by rw [HC0.out]; exact hf.2⟩⟩
            | false => as_aux_lemma =>
              have HC3 : Hid (C3 a.length b.length i j = false) := hc3
              go_wp2
              go_meet
              case rel => exact ⟨H2, T2, rfl, rfl, by omega, by omega, by omega, by omega, hb2, HS2.out.weak fun f hf => ⟨hf, fun h h' => by have := HC3.out; rw [C3_true h h'] at this; cases this⟩⟩
          obtain ⟨w12, rfl⟩ : ∃ w, w = wc := ⟨_, rfl⟩
          clear HS2 hb2 p1 p2 p3 p4
          obtain ⟨H3, T3, rfl, rfl, p1, p2, p3, p4, hb3, HS3⟩ := hcut
          go_upto_region 35 with fail
          go_cut [200] (fun s wx => s = .bool (C4 a b a.length b.length i j) ∧ ∃ n, wx = w12.drewN n)
          case first => as_aux_lemma =>
            clear HS3
            have r1 : IntKind.i64.wrap ((i : Int) + 1) = (i : Int) + 1 := by rw [IntKind.wrap_i64]; omega
            have r2 : IntKind.i64.wrap ((j : Int) + 1) = (j : Int) + 1 := by rw [IntKind.wrap_i64]; omega
            by_cases hin : i + 1 < a.length
            · have i1 : (i : Int) + 1 < (a.length : Int) := by omega
              by_cases hjm : j + 1 < b.length
              · have i2 : (j : Int) + 1 < (b.length : Int) := by omega
                have i3 : (i : Int) < (a.length : Int) := by omega
                have i4 : (j : Int) < (b.length : Int) := by omega
                have i5 : (0 : Int) ≤ (i : Int) + 1 := by omega
                have i6 : (0 : Int) ≤ (j : Int) + 1 := by omega
                obtain ⟨ab, aoff, rfl, hAc⟩ := (hA.below hb3).cell hin
                obtain ⟨bb, boff, rfl, hBc⟩ := (hB.below hb3).cell hjm
                have hcA := hAc i (by omega)
                have hcB := hBc j (by omega)
                have hcA' := hAc (i + 1) hin
                have hcB' := hBc (j + 1) hjm
                obtain ⟨X, eX⟩ : ∃ X, X = a.getD i 0 := ⟨_, rfl⟩
                obtain ⟨Y, eY⟩ : ∃ Y, Y = b.getD j 0 := ⟨_, rfl⟩
                obtain ⟨X', eX'⟩ : ∃ X, X = a.getD (i + 1) 0 := ⟨_, rfl⟩
                obtain ⟨Y', eY'⟩ : ∃ Y, Y = b.getD (j + 1) 0 := ⟨_, rfl⟩
                rw [← eX] at hcA
                rw [← eY] at hcB
                rw [← eX'] at hcA'
                rw [← eY'] at hcB'
                have HX0 : Hid (X = a.getD i 0) := eX
                have HY0 : Hid (Y = b.getD j 0) := eY
                have HX1 : Hid (X' = a.getD (i + 1) 0) := eX'
                have HY1 : Hid (Y' = b.getD (j + 1) 0) := eY'
                clear eX eY eX' eY' hAc hBc hb3
                cases hxy : (X == Y') with
                | false => as_aux_lemma =>
                  have HC4 : Hid (C4 a b a.length b.length i j = false) := by show _ = _; unfold C4; rw [← HX0.out, ← HY1.out, hxy]; simp
                  go_quiet (fail)
                  go_wp2_with fail
                  go_meet
                  case rel => exact ⟨by rw [HC4.out], nq, rfl⟩
                | true => as_aux_lemma =>
                  cases hyx : (X' == Y) with
                  | false => as_aux_lemma =>
                    have HC4 : Hid (C4 a b a.length b.length i j = false) := by show _ = _; unfold C4; rw [← HX1.out, ← HY0.out, hyx]; simp
                    go_quiet (fail)
                    go_wp2_with fail
                    go_meet
                    case rel => exact ⟨by rw [HC4.out], nq, rfl⟩
                  | true => as_aux_lemma =>
                    have HC4 : Hid (C4 a b a.length b.length i j = true) := by show _ = _; unfold C4; rw [← HX0.out, ← HY1.out, ← HX1.out, ← HY0.out, hyx, hxy]; simp [hin, hjm]
                    go_quiet (fail)
                    go_wp2_with fail
                    go_meet
                    case rel => exact ⟨by rw [HC4.out], nq, rfl⟩
              · have hg : decide ((j : Int) + 1 < (b.length : Int)) = false := by simp; omega
                have HC4 : Hid (C4 a b a.length b.length i j = false) := by show _ = _; unfold C4; simp [hjm]
                go_quiet (fail)
                go_wp2_with fail
                go_meet
                case rel => exact ⟨by rw [HC4.out], nq, rfl⟩
            · have hg : decide ((i : Int) + 1 < (a.length : Int)) = false := by simp; omega
              have HC4 : Hid (C4 a b a.length b.length i j = false) := by show _ = _; unfold C4; simp [hin]
              go_quiet (fail)
              go_wp2_with fail
              go_meet
              case rel => exact ⟨by rw [HC4.out], nq, rfl⟩
          obtain ⟨rfl, n12, hw13⟩ := hcut
          obtain ⟨w13, rfl⟩ : ∃ w, w = wc := ⟨_, rfl⟩
          have HS13 : Hid (Step T (a.length + b.length + 1) (gridD a b b.length) gq gd gn Lq (fun x => if x = v then true else dn x) d dlf (fun f => (F1 a.length b.length v d i f ∧ F2 b.length v d j f) ∧ F3 a b a.length b.length v d i j f) w13 H3 T3) := by rw [hw13]; exact HS3.out.drewN n12
          have hb13 : Below w.heap.size w w13 := by rw [hw13]; exact below_drewN hb3 _
          clear hw13 HS3 hb3
          cases hc4 : C4 a b a.length b.length i j with
          | true => as_aux_lemma =>
            obtain ⟨hin, hjm, g1, g2⟩ := C4_out hc4
            obtain ⟨he, hu⟩ := HE.out (v + 2 * (b.length + 1) + 2) 1 (.inr (.inr (.inr ⟨hin, hjm, g1, g2, rfl, rfl⟩)))
            clear g1 g2
            have hu' := hu.1
            have e1 : Hid ((d : Int) + 1 = ((d + 1 : Nat) : Int)) := by show _ = _; push_cast; first | rfl | omega
            have e2 : Hid ((v : Int) + 2 * ((b.length : Int) + 1) + 2 = ((v + 2 * (b.length + 1) + 2 : Nat) : Int)) := by show _ = _; push_cast; first | rfl | omega
            have e4 : 0 < H3 := by omega
            have e5 : H3 < Lq := by omega
            have e6 : T3 < Lq := by omega
            have e7 : Lq ≤ 1000000 := by omega
            have e8 : T ≤ 1000000 := by omega
            have e9 : (fun x => if x = v then true else dn x) v = true := by simp
            go_wp2_with fail
            refine (relax_stepI HG.out gq gd gn Lq _ d dlf _ (((F1.low _ _ _ _ _).and (F2.low _ _ _ _)).and (F3.low _ _ _ _ _ _ _ _)) H3 T3 v (v + 2 * (b.length + 1) + 2) 1 false _ _ _ _ _ w.heap.size HS13.out hBB hv (by simp) HK.out hu he rfl e1.out e2.out rfl rfl e4 e5 e6 e7 e8).mono ?_
            rintro e wx ⟨h', t', rfl, b1, b2, b3, b4, hbx, HX⟩
            have HS14 : Hid (Step T (a.length + b.length + 1) (gridD a b b.length) gq gd gn Lq (fun x => if x = v then true else dn x) d dlf (fun f => ((F1 a.length b.length v d i f ∧ F2 b.length v d j f) ∧ F3 a b a.length b.length v d i j f) ∧ F4 a b a.length b.length v d i j f) wx h' t') := HX.out.weak fun f hf => ⟨hf.1, fun _ _ _ _ => hf.2⟩
            have hb14 := hb13.trans hbx
            clear HS13 hb13 HX hbx
            obtain ⟨q1c, q2c⟩ := HS14.out.done HR.out HD0.out HDN.out hv HK.out HV.out hj
            have HC4c : Hid (cntW wx gn T = c + 1) := by show _ = _; rw [q1c, ← HCC.out, HC.out]
            have HQ4 : Hid (∃ dn k dlf q, St T (a.length + b.length + 1) (gridD a b b.length) wx gq gd gn Lq dn k dlf q h' t' ∧ (∀ x, x < T → dn x = true → Relaxed (gridE a b a.length b.length) dlf x)) := q2c
            have HM : Hid (6 * (T - cntW wx gn T) + (t' - h') < 6 * (T - cntW wr gn T) + (tail - head)) := by show _ < _; rw [HC4c.out, HC.out]; omega
            have HL : h' ≤ t' := by obtain ⟨_, _, _, _, ⟨_, _, _, _, _, L, _⟩, _⟩ := HQ4.out; have := L.tl; omega
            clear q1c q2c HS14
            go_wp2
            go_roundw
            case rel => exact ⟨h', t', c + 1, rfl, rfl, HL, hc1, by omega, by omega, hb14, HC4c, HQ4⟩
            case measure => have := HM.out; simpa [intOf] using this
          | false => as_aux_lemma =>
            have HS14 : Hid (Step T (a.length + b.length + 1) (gridD a b b.length) gq gd gn Lq (fun x => if x = v then true else dn x) d dlf (fun f => ((F1 a.length b.length v d i f ∧ F2 b.length v d j f) ∧ F3 a b a.length b.length v d i j f) ∧ F4 a b a.length b.length v d i j f) w13 H3 T3) := HS13.out.weak fun f hf => ⟨hf, fun h1 h2 h3 h4 => by rw [C4_true h1 h2 h3 h4] at hc4; cases hc4⟩
            clear HS13
            obtain ⟨q1c, q2c⟩ := HS14.out.done HR.out HD0.out HDN.out hv HK.out HV.out hj
            have HC4c : Hid (cntW w13 gn T = c + 1) := by show _ = _; rw [q1c, ← HCC.out, HC.out]
            have HQ4 : Hid (∃ dn k dlf q, St T (a.length + b.length + 1) (gridD a b b.length) w13 gq gd gn Lq dn k dlf q H3 T3 ∧ (∀ x, x < T → dn x = true → Relaxed (gridE a b a.length b.length) dlf x)) := q2c
            have HM : Hid (6 * (T - cntW w13 gn T) + (T3 - H3) < 6 * (T - cntW wr gn T) + (tail - head)) := by show _ < _; rw [HC4c.out, HC.out]; omega
            have HL : H3 ≤ T3 := by obtain ⟨_, _, _, _, ⟨_, _, _, _, _, L, _⟩, _⟩ := HQ4.out; have := L.tl; omega
            clear q1c q2c HS14
            go_wp2
            go_roundw
            case rel => exact ⟨H3, T3, c + 1, rfl, rfl, HL, hc1, by omega, by omega, hb13, HC4c, HQ4⟩
            case measure => have := HM.out; simpa [intOf] using this
      · go_wp2
        go_meet
        case rel =>
          obtain ⟨dn, k, dlf, q, ⟨ql, dl, nl, h3, hq, L, M⟩, R⟩ := HS.out
          have htl := L.tl
          obtain rfl : q = [] := List.eq_nil_of_length_eq_zero (by omega)
          have e := M.over HG.out R (T - 1) (by omega)
          refine ⟨?_, hb⟩
          rw [h3.rd.cell, V64_get _ _ (by rw [L.dlen]; omega), L.dval _ (by omega), e]
          have e2 : T - 1 = a.length * (b.length + 1) + b.length := by
            have := HT.out
            rw [Nat.succ_mul] at this
            omega
          rw [e2, gridD_at a b b.length a.length b.length (Nat.le_refl _)]
          rfl
  obtain ⟨w7, rfl⟩ : ∃ w7, w7 = wc := ⟨_, rfl⟩
  obtain ⟨hc7, hb7⟩ := hcut
  have hTi1 : IntKind.i64.wrap ((T : Int) - 1) = ((T - 1 : Nat) : Int) := by rw [IntKind.wrap_i64]; omega
  have hTi2 : ((T - 1 : Nat) : Int) < (T : Int) := by omega
  clear hS hb5
  go_wp2
  go_ret
  exact ⟨rfl, hb7⟩
end Go.Proofs.Qxb6619225a
