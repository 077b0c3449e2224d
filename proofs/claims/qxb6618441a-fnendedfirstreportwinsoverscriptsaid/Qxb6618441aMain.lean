/-
  The law's own walk.
-/
import Derived.Test.Qxb6618441aPartB
namespace Go.Proofs.Qxb6618441a
open Go.RowKit Mem
set_option linter.unusedVariables false

set_option maxRecDepth 100000 in
set_option maxHeartbeats 100000000 in
theorem law_small (a r nw ia : Option Addr) (ca cr cn ci : Nat) (cs : List Cmd) (run : List Run) (nows ids : List Int) (w : World) (hC : RC w a cs.length cs) (hR : RR w r run.length run) (hN : RI w nw nows.length nows) (hI : RI w ia ids.length ids)
    (h1 : cs.length ≤ 4096) (h2 : run.length ≤ 4096) (h3 : nows.length ≤ 4096) (h4 : ids.length ≤ 4096) (hwr : ∀ i, W64 (run.getD i (0, 0)).1 ∧ W64 (run.getD i (0, 0)).2) (hwi : ∀ i, W64 (ids.getD i 0)) :
    Calls Try.prog 3 #[.slice a cs.length ca, .slice r run.length cr, .slice nw nows.length cn, .slice ia ids.length ci] w fun e w' => e = .returned (.bool true) ∧ Below w.heap.size w w' := by
  have m1 : cs.length ≤ maxLen := by unfold maxLen; omega
  have m2 : run.length ≤ maxLen := by unfold maxLen; omega
  have m3 : nows.length ≤ maxLen := by unfold maxLen; omega
  have m4 : ids.length ≤ maxLen := by unfold maxLen; omega
  go_enter Try.func3, Try.ntmps3
  go_upto_block 0 with (go_at_call 4; refine (zz_any a r nw ia _ _ _ ca cr cn ci cs _ hC m1 m2 m3 m4).mono ?_; rintro e w' ⟨⟨x, rfl⟩, rfl⟩)
  · go_ret; exact ⟨rfl, Below.refl _ _⟩
  -- loop 1: the total; it may answer true
  go_cut [] (fun wx => Below w.heap.size w wx)
  case first =>
    go_wp2
    go_loopw [9, 10] (fun t j wr => ∃ (k : Nat) (x : Int), k ≤ cs.length ∧ t = .int .i64 x ∧ j = .int .i64 k ∧ Hid (∃ n, wr = w.drewN n)) (fun _ j _ => cs.length - (intOf j).toNat)
    case atStart => exact ⟨0, _, by omega, rfl, rfl, 0, rfl⟩
    case round =>
      obtain ⟨k, x, hk, rfl, rfl, hn⟩ := hrel
      by_cases hlt : k < cs.length
      · obtain ⟨b', off, rfl, c0, c1, c2, c3, c4⟩ := (show RC wr a cs.length cs by obtain ⟨n, rfl⟩ := hn.out; exact hC).cell hlt
        generalize cs.getD k Cmd.none = c at c0 c1 c2 c3 c4
        clear hC hR hN hI hwr hwi c0 c3 c4
        go_wp2
        go_quiet (fail)
        go_wp2
        · go_ret
          exact ⟨rfl, by obtain ⟨n, rfl⟩ := hn.out; exact below_drewN (below_drewN (Below.refl _ _) _) _⟩
        · go_roundw
          case rel => exact ⟨k + 1, _, by omega, rfl, by go_num, by obtain ⟨n, rfl⟩ := hn.out; exact ⟨n + nq, World.drewN_drewN _ _ _⟩⟩
          case measure => simp [intOf]; omega
      · go_wp2
        go_meet
        case rel => obtain ⟨n, rfl⟩ := hn.out; exact below_drewN (Below.refl _ _) _
  obtain ⟨w1, rfl⟩ : ∃ w1, w1 = wc := ⟨_, rfl⟩
  have hb1 := hcut
  clear hcut
  -- loop 2: each entry that counts points at a command; else it answers true
  go_upto_block 2 with fail
  go_cut [] (fun wx => (∀ i, i < run.length → eff run i = true → 0 ≤ (run.getD i (0, 0)).2 ∧ (run.getD i (0, 0)).2 < cs.length) ∧ Below w.heap.size w wx)
  case first =>
    go_wp2
    go_loopw [11, 12] (fun j _ wr => ∃ (k : Nat), k ≤ run.length ∧ j = .int .i64 k ∧ Hid (∀ i, i < k → eff run i = true → 0 ≤ (run.getD i (0, 0)).2 ∧ (run.getD i (0, 0)).2 < cs.length) ∧ Below w.heap.size w wr) (fun j _ _ => run.length - (intOf j).toNat)
    case atStart => exact ⟨0, by omega, rfl, fun i hi => absurd hi (by omega), hb1⟩
    case round =>
      obtain ⟨k, hk, rfl, HP, hb⟩ := hrel
      have hR' := hR.below hb
      by_cases hlt : k < run.length
      · obtain ⟨b', off, rfl, c1, c2⟩ := hR'.cell hlt
        cases he : eff run k with
        | true =>
          have HE : Hid (eff run k = true) := he
          clear he
          obtain ⟨y, hy⟩ : ∃ y, y = (run.getD k (0, 0)).2 := ⟨_, rfl⟩
          rw [← hy] at c2
          have HY : Hid (y = (run.getD k (0, 0)).2) := hy
          clear hy c1
          have c2' : ∀ n, (wr.drewN n).cell? ⟨b', off + k * 2 + 1, none⟩ = some (.int .i64 y) := fun n => c2
          by_cases hy0 : y < 0
          · have hd : decide (y < 0) = true := by simpa using hy0
            go_wp2_with (go_at_call 5; refine (eff_any _ cr k run _ hR' hlt h2).mono ?_; rintro e w' ⟨rfl, n, rfl⟩; rw [HE.out])
            go_ret
            exact ⟨rfl, below_drewN hb _⟩
          · have hd : decide (y < 0) = false := by simpa using hy0
            go_wp2_with (go_at_call 5; refine (eff_any _ cr k run _ hR' hlt h2).mono ?_; rintro e w' ⟨rfl, n, rfl⟩; rw [HE.out])
            · go_ret
              exact ⟨rfl, below_drewN hb _⟩
            · go_roundw
              case rel =>
                refine ⟨k + 1, by omega, by go_num, fun i hi hie => ?_, below_drewN hb _⟩
                by_cases e : i = k
                · subst e; rw [← HY.out]; omega
                · exact HP.out i (by omega) hie
              case measure => simp [intOf]; omega
        | false =>
          have HE : Hid (eff run k = false) := he
          clear he
          go_wp2_with (go_at_call 5; refine (eff_any _ cr k run _ hR' hlt h2).mono ?_; rintro e w' ⟨rfl, n, rfl⟩; rw [HE.out])
          go_roundw
          case rel =>
            refine ⟨k + 1, by omega, by go_num, fun i hi hie => ?_, below_drewN hb _⟩
            by_cases e : i = k
            · subst e; rw [HE.out] at hie; cases hie
            · exact HP.out i (by omega) hie
          case measure => simp [intOf]; omega
      · go_wp2
        go_meet
        case rel => exact ⟨fun i hi => HP.out i (by omega), hb⟩
  obtain ⟨w2, rfl⟩ : ∃ w2, w2 = wc := ⟨_, rfl⟩
  obtain ⟨hprem, hb2⟩ := hcut
  have HPR : Hid (∀ i, i < run.length → eff run i = true → 0 ≤ (run.getD i (0, 0)).2 ∧ (run.getD i (0, 0)).2 < cs.length) := hprem
  clear hprem hb1
  -- n: the lesser of the two lengths
  go_upto_if 123 with fail
  go_cut [13] (fun s13 wx => (∃ N : Nat, s13 = .int .i64 N ∧ N ≤ nows.length ∧ N ≤ ids.length) ∧ w2 = wx)
  case first =>
    by_cases hnn : nows.length < ids.length
    · go_wp2
      go_meet
      case rel => exact ⟨⟨nows.length, rfl, by omega, by omega⟩, rfl⟩
    · go_wp2
      go_meet
      case rel => exact ⟨⟨ids.length, rfl, by omega, by omega⟩, rfl⟩
  obtain ⟨⟨N, rfl, hN1, hN2⟩, rfl⟩ := hcut
  -- the commands: a row of the call's own
  go_upto_block 4 with (at_make; refine wpList_make_wide rfl _ _ 32 rfl 33 5 56 Try.underlying32 Try.info33 .i64 .i64 cs.length _ _ rfl rfl rfl rfl (by omega) (by omega) ?_; intro gc w3 hgc hgcl hrow hb3)
  obtain ⟨vs0, hrow0, hvl0⟩ := hrow
  have hb3' : Below w.heap.size w w3 := hb2.trans (hb3.mono hb2.size)
  have hwgc : w.heap.size ≤ gc := Nat.le_trans hb2.size hgc
  -- loop 3: the commands, field for field
  go_cut [] (fun wx => (∃ vs, Arr wx gc 33 vs ∧ IsRow vs cs (cs.map Cmd.e)) ∧ Below w.heap.size w wx)
  case first =>
    go_wp2
    go_loopw [15] (fun j wr => ∃ (k : Nat) (vs : List Value), k ≤ cs.length ∧ j = .int .i64 k ∧ Arr wr gc 33 vs ∧ Hid (IsRowTo k vs cs (cs.map Cmd.e)) ∧ Below w.heap.size w wr) (fun j _ => cs.length - (intOf j).toNat)
    case atStart => exact ⟨0, vs0, by omega, rfl, hrow0, ⟨hvl0, fun i hi => absurd hi (by omega)⟩, hb3'⟩
    case round =>
      clear hrow0 hb3 hb3' hb2
      obtain ⟨k, vs, hk, rfl, hrow, HV, hb⟩ := hrel
      have hvl := HV.out.1
      by_cases hlt : k < cs.length
      · obtain ⟨b', off, rfl, c0, c1, c2, c3, c4⟩ := (hC.below hb).cell hlt
        obtain ⟨c, hc⟩ : ∃ c, c = cs.getD k Cmd.none := ⟨_, rfl⟩
        rw [← hc] at c0 c1 c2 c3 c4
        have HC : Hid (c = cs.getD k Cmd.none) := hc
        have hth : ∀ W : World, (∀ x, W.cell? x = wr.cell? x) → (∀ x, W.frozen? x = wr.frozen? x) → W.there gc (k * 5) 5 := fun W h1 h2 j hj => by
          rw [h1, h2, hrow.cell, List.getElem?_eq_getElem (by omega)]
          exact ⟨rfl, hrow.frozen _⟩
        clear hc hC hR hN hI hwr hwi
        go_wp2
        go_still_tail 29, (by kernel_rfl)
        refine wpList_store_mid rfl 33 (.tmp 163) (.tmp 162) rfl gc (k * 5) #[.int .i64 c.r, .string c.d, .string c.a, .int .i64 c.s, .int .i64 c.e] rfl rfl (hth _ (fun _ => rfl) (fun _ => rfl)) (by kernel_rfl) (all_oneCell_toArray (cs := Cmd.cells c) (by intro v hv; simp [Cmd.cells] at hv; rcases hv with rfl | rfl | rfl | rfl | rfl <;> rfl)) ?_
        obtain ⟨vs', q1, q2, q3, q4, q5⟩ := Arr.setCells (Cmd.cells c) (k * 5) wr vs hrow (by simp [Cmd.cells]; omega)
        go_wp2
        go_roundw
        case rel =>
          refine ⟨k + 1, vs', by omega, by go_num, q1, ?_, ?_⟩
          · exact HV.out.fill hlt q2 q3 (by rw [HC.out] at q4; exact q4)
          · exact hb.drew.trans (below_setCells hwgc)
        case measure => simp [intOf]; omega
      · go_wp2
        go_meet
        case rel => exact ⟨⟨vs, hrow, HV.out.1, fun i hi => HV.out.2 i (by omega)⟩, hb⟩
  obtain ⟨w4, rfl⟩ : ∃ w4, w4 = wc := ⟨_, rfl⟩
  obtain ⟨⟨vs, hrow4, hvs4⟩, hb4⟩ := hcut
  clear hrow0 hb3 hb3' hb2
  exact useK (by assumption) (partB a r nw ia ca cr cn ci cs run nows ids w hC hR hN hI h1 h2 h3 h4 hwr hwi HPR N hN1 hN2 gc hwgc w4 vs hb4 hrow4 hvs4 _ _ _ _ _ _ _ _ _ _ _ _ _ _ _ _ _ _ _ _ _ _ _ _ _ _ _ _ _ _ _ _ _ _ _ _ _ _ _ _ _ _ _ _ _ _ _ _ _ _ _ _ _ _ _ _ _ _ _ _ _ _ _ _ _ _ _ _ _ _ _ _ _ _ _ _ _ _ _ _ _ _ _ _ _ _ _ _ _ _ _ _ _ _ _ _ _ _ _ _ _ _ _ _ _ _ _ _ _ _ _ _ _ _ _ _ _ _ _ _ _ _ _ _ _ _ _ _ _ _ _ _ _ _ _ _ _ _ _ _ _ _ _ _ _ _ _ _ _ _ _ _ _ _ _ _ _ _ _ _ _ _ _ _ _ _ _ _ _ _ _ _ _ _ _ _ _ _ _ _ _ _ _ _ _ _ _ _ _ _ _ _ _ _ _ _ _ _ _ _ _ _ _ _ _ _ _ _ _ _ _ _ _ _ _ _ _ _ _ _ _ _ _ _ _ _ _ _ _ _ _ _ _ _ _ _ _ _ _ _ _ _ _ _ _ _ _ _ _ _ _ _ _ _ _ _ _ _ _ _ _ _ _ _ _ _ _ _ _ _ _ _ _ _ _ _ _ _ _ _ _ _ _ _ _ _ _ _ _ _ _ _ _ _ _ _ _ _ _ _ _ _ _ _ _ _ _ _ _ _ _ _ _ _ _ _ _ _ _ _ _ _ _ _ _ _ _ _ _ _ _ _ _ _ _ _ _ _ _ _ _ _ _ _ _ _ _ _ _ _ _ _)
end Go.Proofs.Qxb6618441a
