/-
  appendNames' contract.
-/
import Derived.Test.Qxb6619225aBuild
namespace Go.Proofs.Qxb6619225a
set_option linter.unusedVariables false
open Go.RowKit Mem

theorem Try.size67 (a b : Value) : (Try.prog.info? 67).map (·.size) = some [a, b].length := by kernel_rfl
theorem Try.zero67 : (Try.prog.info? 67).map (fun i => i.zero) = some (some (.agg #[.pointer none, .pointer none])) := by kernel_rfl

theorem flat_succ (Ls : List (List Value)) (j : Nat) (Li : List Value) (h : Ls[j]? = some Li) : (Ls.take (j + 1)).flatten = (Ls.take j).flatten ++ Li := by
  rw [List.take_add_one, h]
  simp
theorem flat_le (Ls : List (List Value)) (j : Nat) : (Ls.take j).flatten.length ≤ Ls.flatten.length := by
  have : Ls.flatten = (Ls.take j).flatten ++ (Ls.drop j).flatten := by rw [← List.flatten_append, List.take_append_drop]
  rw [this, List.length_append]
  omega

/-- The list grown so far. -/
structure Grown (w wr : World) (B k : Nat) (lv : Value) (xs : List Value) (lv' : Value) (ns : List Value) : Prop where
  own : OwnW wr B 35 1 lv' (k + ns.length) (xs ++ ns)
  fr : Fr (fun x => lv.ownBlock = some x) w wr
  track : lv'.ownBlock = lv.ownBlock ∨ ∀ k, lv'.ownBlock = some k → w.heap.size ≤ k

theorem Grown.fresh {w wr wr' : World} {B k : Nat} {lv lv' : Value} {xs ns : List Value} (h : Grown w wr B k lv xs lv' ns) (hF : Fr (fun _ => False) wr wr') : Grown w wr' B k lv xs lv' ns :=
  ⟨h.own.fr hF (fun _ _ h => h), h.fr.trans hF (fun _ _ h => h.elim), h.track⟩

theorem Grown.join {w wr wr' : World} {B k N : Nat} {lv lv' lv2 : Value} {xs ns ns2 : List Value} (h : Grown w wr B k lv xs lv' ns) (hN : N = k + ns.length) (g : Grown wr wr' B N lv' (xs ++ ns) lv2 ns2) : Grown w wr' B k lv xs lv2 (ns ++ ns2) := by
  subst hN
  refine ⟨?_, ?_, ?_⟩
  · have := g.own
    rw [List.append_assoc] at this
    simpa [Nat.add_assoc] using this
  · refine h.fr.trans g.fr (fun x hx hs => ?_)
    rcases h.track with e | e
    · rw [← e]; exact hs
    · exact absurd (e x hs) (by omega)
  · rcases g.track with e | e
    · rcases h.track with e' | e'
      · exact .inl (e.trans e')
      · exact .inr (fun x hx => e' x (by rw [← e]; exact hx))
    · exact .inr (fun x hx => Nat.le_trans h.fr.size (e x hx))

set_option maxRecDepth 100000 in
set_option maxHeartbeats 4000000 in
theorem list_any (B : Nat) (ok : Nat → Prop) : ∀ (n : Nat) (p : Option Addr) (L : List Value) (lv : Value) (k : Nat) (xs : List Value) (w : World), Names w ok n p L → OwnW w B 35 1 lv k xs → B ≤ w.heap.size → k + L.length ≤ 200000 →
    Calls Try.prog 27 #[.pointer p, lv] w fun e w' => ∃ lv', e = .returned lv' ∧ Grown w w' B k lv xs lv' L := by
  intro n
  induction n with
  | zero => intro p L lv k xs w h; exact False.elim h
  | succ n ih =>
    intro p L lv k xs w hN hO hB hk
    have hg0 : Grown w w B k lv xs lv [] := ⟨by simpa using hO, Fr.refl _ _, .inl rfl⟩
    obtain ⟨la, lc, rfl⟩ := hO.shape
    rcases hN with ⟨rfl, rfl⟩ | ⟨g, s, ys, Ls, rfl, h2, h3, h4, h5, rfl, h7, h8⟩
    · go_enter Try.func27, Try.ntmps27
      go_wp2
      go_ret
      exact ⟨_, rfl, hg0⟩
    · obtain ⟨sa, sc, rfl⟩ := h4.shape
      have c2 : w.cell? ⟨g, 2, none⟩ = some (.slice sa Ls.length sc) := by rw [h3.cell]; rfl
      have H8 : Hid (Kids (Names w ok n) ys Ls) := h8
      obtain ⟨len, hlen⟩ : ∃ len, len = Ls.length := ⟨_, rfl⟩
      have HL : Hid (len = Ls.length) := hlen
      rw [← hlen] at c2 h4 h7
      have hkf : k + Ls.flatten.length ≤ 200000 := hk
      clear h8 hlen hk
      go_enter Try.func27, Try.ntmps27
      go_upto_block 0 with fail
      go_wp2
      go_loopw [1, 6, 15] (fun s1 _ s15 wr => ∃ (j N : Nat) (la' : Option Addr) (lc' : Nat), j ≤ len ∧ s15 = .int .i64 j ∧ s1 = .slice la' N lc' ∧ N ≤ 200000 ∧ Hid (N = k + (Ls.take j).flatten.length) ∧ Grown w wr B k (.slice la k lc) xs (.slice la' N lc') (Ls.take j).flatten) (fun _ _ s15 _ => len - (intOf s15).toNat)
      case atStart => exact ⟨0, k, la, lc, Nat.zero_le _, rfl, rfl, by omega, by show _ = _; simp, hg0⟩
      case round =>
        clear hg0 c2
        obtain ⟨j, N, la', lc', hj, rfl, rfl, hNs, HN, hgr⟩ := hrel
        have hlr : ∀ x e vs, (Value.slice la k lc).ownBlock = some x → Arr w x e vs → e = 35 := fun x e vs hx ha => by
          obtain ⟨_, vs', ha'⟩ := hO.arr hx
          exact Arr.tag ha ha'
        by_cases hlt : j < len
        · obtain ⟨Li, x, q, e1, e2, e3, e4⟩ := H8.out j (by have := HL.out; omega)
          have h4r : OwnW wr 0 67 2 (.slice sa len sc) len ys := h4.fr hgr.fr (fun r hr hs => by
            obtain ⟨_, vs, ha⟩ := h4.arr hr
            exact absurd (hlr r 67 vs hs ha) (by decide))
          obtain ⟨gr, sc', hsl, _, hcl⟩ := h4r.some (by omega)
          obtain ⟨rfl, -, rfl⟩ : sa = some ⟨gr, 0, none⟩ ∧ len = len ∧ sc = sc' := by simpa using hsl
          have hyl : ys.length = len * 2 := h4.1
          have hrange : wr.rangeAt gr (j * 2) [.pointer x, .pointer q] := fun i v hv => by
            match i, hv with
            | 0, hv => simp at hv; rw [← hv, Nat.add_zero, hcl _ (by omega)]; exact e2
            | 1, hv => simp at hv; rw [← hv, hcl _ (by omega)]; exact e3
            | i + 2, hv => simp at hv
          have hNr : ∀ q L, Names w ok n q L → Names wr ok n q L := Names.keep hgr.fr (fun x e vs ha he hok => ⟨fun hs => by have := hlr x e vs hs ha; subst this; rcases he with he | he <;> exact absurd he (by decide), hok⟩) n
          have HT : Hid ((Ls.take (j + 1)).flatten = (Ls.take j).flatten ++ Li) := flat_succ Ls j Li e1
          have hfl : (Ls.take (j + 1)).flatten.length ≤ Ls.flatten.length := flat_le Ls (j + 1)
          have hNL : N + Li.length ≤ 200000 := by have := HN.out; rw [HT.out, List.length_append] at hfl; omega
          have HN' : Hid (N + Li.length = k + (Ls.take (j + 1)).flatten.length) := by show _ = _; rw [HT.out, List.length_append]; have := HN.out; omega
          have hBr := Nat.le_trans hB hgr.fr.size
          have hji : (j : Int) < (len : Int) := by omega
          clear hsl hcl e1 e2 e3 hfl h4r h3
          go_upto_region 6 with (first
            | (refine wpList_load_mid rfl 67 (.tmp 17) rfl gr (j * 2) rfl _ _ hrange Try.underlying67 rfl (Try.size67 _ _) ?_)
            | (refine wpList_alloc_abs rfl 67 rfl _ Try.zero67 ?_; intro gs wa hgs hgsl hGS hba)
            | (refine wpList_store_abs rfl 67 (.tmp 6) (.tmp 18) rfl gs rfl 67 _ [.pointer x, .pointer q] rfl hGS rfl (Try.size67 _ _) (by simp [Value.oneCell']) ?_; intro wb hGb hbb hob))
          have frb : Fr (fun _ => False) wr wb := (Fr.ofBelow hba).trans (Fr.ofStore hbb hob) (fun x hx e => by omega)
          have hgb := hgr.fresh frb
          have hBb := Nat.le_trans hBr frb.size
          have k0 : wb.cell? ⟨gs, 0, none⟩ = some (.pointer x) := by rw [hGb.cell]; rfl
          have k1 : wb.cell? ⟨gs, 1, none⟩ = some (.pointer q) := by rw [hGb.cell]; rfl
          have hS0 : OwnW wb B 35 1 (.slice la' N lc') N (xs ++ (Ls.take j).flatten) := by have := hgb.own; rw [← HN.out] at this; exact this
          clear hrange hGb hbb hob hba hGS hgr hBr
          rcases e4 with ⟨hx, rfl⟩ | ⟨rfl, hNq⟩
          · obtain ⟨y, rfl⟩ : ∃ y, x = some y := by cases x with | none => exact absurd rfl hx | some y => exact ⟨y, rfl⟩
            have hb1 : Below wb.heap.size wb (wb.alloc (.cells #[.pointer (some y)] 35)) := (Below.refl _ _).alloc (Nat.le_refl _) _
            have hgc := hgb.fresh (Fr.ofBelow hb1)
            have hAX := Arr.new wb 35 [.pointer (some y)]
            have hsrc : Src Try.prog 1 34 (.slice (some ⟨wb.heap.size, 0, none⟩) 1 1) 1 [.pointer (some y)] (wb.alloc (.cells #[.pointer (some y)] 35)) :=
              Src.ofSlice _ Try.underlying34 ⟨wb.heap.size, 0, none⟩ 1 1 [.pointer (some y)] rfl (fun i u hu => by
                have hadd : (⟨wb.heap.size, 0, none⟩ : Addr).add i = ⟨wb.heap.size, 0 + i, none⟩ := by unfold Addr.add; split <;> simp_all
                have := hAX.cell i
                rw [hadd, Nat.zero_add]
                exact this.trans hu) (by simp [Value.oneCell'])
            have hS1 := hS0.fr (Fr.ofBelow (S := fun _ => False) hb1) (fun _ _ h => h)
            have hB1 := Nat.le_trans hBb hb1.size
            simp only [List.length_cons, List.length_nil, Nat.zero_add] at HN' hNL
            clear hAX hgb ih hNr hx
            go_wp2_with (at_builtin; go_must (refine wpList_append_OwnW rfl _ _ 34 34 rfl B 35 (.pointer none) 1 8 Try.underlying34 Try.info35 rfl (.slice la' N lc') N (xs ++ (Ls.take j).flatten) rfl hS1 _ [.pointer (some y)] rfl hsrc hB1 (by unfold maxLen; omega) (by omega) ?_; intro g2 c2 w2 hS2 hG2 hblk))
            have hg2 : Grown (wb.alloc (.cells #[.pointer (some y)] 35)) w2 B N (.slice la' N lc') (xs ++ (Ls.take j).flatten) (.slice (some ⟨g2, 0, none⟩) (N + 1) c2) [.pointer (some y)] :=
              ⟨hS2, Fr.grown hG2 (fun k hk => hk), by
                rcases hblk with h | h
                · exact .inl h
                · exact .inr (fun k hk => by simp [Value.ownBlock] at hk; omega)⟩
            have hg3 := hgc.join HN.out hg2
            rw [← HT.out] at hg3
            clear hg2 hgc hS2 hG2 hblk hS1 hsrc
            go_roundw
            case rel => exact ⟨j + 1, N + 1, _, _, by omega, by go_num, rfl, hNL, HN', hg3⟩
            case measure => simp [intOf]; omega
          · have hNb : Names wb ok n q Li := Names.keep frb (fun x e vs ha he hok => ⟨fun h => h, hok⟩) n q Li (hNr q Li hNq)
            go_wp2_with (go_at_call 27; refine (ih q Li (.slice la' N lc') N (xs ++ (Ls.take j).flatten) wb hNb hS0 hBb hNL).mono ?_; rintro e wc ⟨lv2, rfl, hg2⟩)
            have hg3 := hgb.join HN.out hg2
            obtain ⟨la2, lc2, rfl⟩ := hg2.own.shape
            rw [← HT.out] at hg3
            clear hg2 hgb hS0 hNb hNq hNr
            go_roundw
            case rel => exact ⟨j + 1, N + Li.length, la2, lc2, by omega, by go_num, rfl, hNL, HN', hg3⟩
            case measure => simp [intOf]; omega
        · go_wp2
          go_ret
          refine ⟨_, rfl, ?_⟩
          have := hgr
          rw [List.take_of_length_le (by have := HL.out; omega)] at this
          exact this
end Go.Proofs.Qxb6619225a
