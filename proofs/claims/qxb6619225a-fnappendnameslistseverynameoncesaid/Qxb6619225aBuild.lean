/-
  buildNameTree's contract.
-/
import Derived.Test.Qxb6619225aNames
namespace Go.Proofs.Qxb6619225a
set_option linter.unusedVariables false
open Go.RowKit Mem

theorem Try.info51 (a b c : Value) : (Try.prog.info? 51).map (·.size) = some [a, b, c].length := by kernel_rfl
theorem Try.zero51 : (Try.prog.info? 51).map (fun i => i.zero) = some (some (.agg #[.bool false, .int .i32 0, .pointer none])) := by kernel_rfl

/-- One name more: appended and stored. -/
theorem Made.push {w wc w2 : World} {B gm K N : Nat} {m m' v2 : Value} {ms ns : List Value} {nm : Value} (h : Made w wc B gm K m ms m' ns) (hw : w.heap.size ≤ wc.heap.size) (hN : N = K + ns.length) (hp : Places wc N [nm])
    (hO : OwnW w2 B 35 1 v2 (N + 1) (ms ++ ns ++ [nm])) (hF : Fr (fun x => m'.ownBlock = some x) wc w2) (ht : v2.ownBlock = m'.ownBlock ∨ ∀ k, v2.ownBlock = some k → wc.heap.size ≤ k) :
    Made w (w2.setCell ⟨gm, 0, none⟩ v2) B gm K m ms v2 (ns ++ [nm]) := by
  subst hN
  have hne : m'.ownBlock ≠ some gm := fun e => by obtain ⟨_, vs, ha⟩ := h.own.arr e; exact absurd (Arr.tag h.var ha) (by decide)
  have hv2 := hF.arr h.var hne
  have hne2 : v2.ownBlock ≠ some gm := fun e => by obtain ⟨_, vs, ha⟩ := hO.arr e; exact absurd (Arr.tag hv2 ha) (by decide)
  have k55 : ∀ x vs, m'.ownBlock = some x → ¬ Arr wc x 55 vs := fun x vs hs ha => by obtain ⟨_, vs', ha'⟩ := h.own.arr hs; exact absurd (Arr.tag ha ha') (by decide)
  have hpl := (h.places.append hp).keep hF k55
  refine ⟨hv2.set 0 _, ?_, hpl.keep (Fr.setCell (S := fun x => x = gm) rfl _) (fun x vs hs ha => by subst hs; exact absurd (Arr.tag hv2 ha) (by decide)), ?_, ?_⟩
  · have := hO.fr (Fr.setCell (w := w2) (S := fun x => x = gm) (b := gm) (o := 0) rfl v2) (fun k hk e => hne2 (by rw [hk, e]))
    rw [List.append_assoc] at this
    simpa [Nat.add_assoc] using this
  · refine (h.fr.trans hF (fun x hx hs => ?_)).trans (Fr.setCell (S := fun x => x = gm) rfl _) (fun x _ hs => .inl hs)
    rcases h.track with e | e
    · exact .inr (by rw [← e]; exact hs)
    · exact absurd (e x hs) (by omega)
  · rcases ht with e | e
    · rcases h.track with e' | e'
      · exact .inl (e.trans e')
      · exact .inr (fun k hk => e' k (by rw [← e]; exact hk))
    · exact .inr (fun k hk => Nat.le_trans hw (e k hk))

/-- The names of a node below come behind. -/
theorem Made.join {w wb wc : World} {B gm K N : Nat} {m m' m2 : Value} {ms ns ns2 : List Value} (h : Made w wb B gm K m ms m' ns) (hw : w.heap.size ≤ wb.heap.size) (hN : N = K + ns.length) (k : Made wb wc B gm N m' (ms ++ ns) m2 ns2) : Made w wc B gm K m ms m2 (ns ++ ns2) := by
  subst hN
  refine ⟨k.var, ?_, ?_, ?_, ?_⟩
  · have := k.own
    rw [List.append_assoc] at this
    simpa [Nat.add_assoc] using this
  · refine (h.places.keep k.fr (fun x vs hs ha => ?_)).append k.places
    rcases hs with hs | hs
    · subst hs; exact absurd (Arr.tag h.var ha) (by decide)
    · obtain ⟨_, vs', ha'⟩ := h.own.arr hs; exact absurd (Arr.tag ha ha') (by decide)
  · refine h.fr.trans k.fr (fun x hx hs => ?_)
    rcases hs with hs | hs
    · exact .inl hs
    · rcases h.track with e | e
      · exact .inr (by rw [← e]; exact hs)
      · exact absurd (e x hs) (by omega)
  · rcases k.track with e | e
    · rcases h.track with e' | e'
      · exact .inl (e.trans e')
      · exact .inr (fun x hx => e' x (by rw [← e]; exact hx))
    · exact .inr (fun x hx => Nat.le_trans hw (e x hx))

/-- Only blocks that are new since have turned. -/
theorem Made.fresh {w wr wr' : World} {B gm K : Nat} {m m' : Value} {ms ns : List Value} (h : Made w wr B gm K m ms m' ns) (hF : Fr (fun _ => False) wr wr') : Made w wr' B gm K m ms m' ns :=
  h.keep hF (fun _ _ _ hs => hs.elim) (fun _ hs => hs.elim)
theorem Node.fresh {w wr wr' : World} {n g : Nat} {s : Value} {xs : List Value} {Ls : List (List Value)} (h : Node w wr n g s xs Ls) (hF : Fr (fun _ => False) wr wr') : Node w wr' n g s xs Ls :=
  h.keep hF (fun _ _ _ hs => hs.elim)
theorem Node.made {w wr wr' : World} {n g : Nat} {s : Value} {xs : List Value} {Ls : List (List Value)} (h : Node w wr n g s xs Ls) {v' : World} {B gm K : Nat} {v m' : Value} {ms ns : List Value} (hM : Made v' wr B gm K v ms m' ns) (hF : Fr (fun x => x = gm ∨ m'.ownBlock = some x) wr wr') : Node w wr' n g s xs Ls :=
  h.keep hF (fun x e vs hs ha => by
    rcases hs with hs | hs
    · subst hs; have := Arr.tag hM.var ha; subst this; exact ⟨by decide, by decide⟩
    · obtain ⟨_, vs', ha'⟩ := hM.own.arr hs; have := Arr.tag ha' ha; subst this; exact ⟨by decide, by decide⟩)
/-- A slot added to the node turns nothing of the names. -/
theorem Made.node {w wr wr' : World} {B gm K : Nat} {m m' : Value} {ms ns : List Value} (h : Made w wr B gm K m ms m' ns) {n g : Nat} {s : Value} {xs : List Value} {Ls : List (List Value)} (hN : Node w wr n g s xs Ls) (hg : w.heap.size ≤ g) (hF : Fr (fun x => x = g ∨ s.ownBlock = some x) wr wr') : Made w wr' B gm K m ms m' ns :=
  h.keep hF (fun x e vs hs ha => by
    rcases hs with hs | hs
    · subst hs; have := Arr.tag hN.var ha; subst this; exact ⟨hg, by decide, by decide, by decide⟩
    · obtain ⟨hb, vs', ha'⟩ := hN.own.arr hs; have := Arr.tag ha' ha; subst this; exact ⟨hb, by decide, by decide, by decide⟩)
    (fun x hs => by
      rcases hs with hs | hs
      · omega
      · exact (hN.own.arr hs).1)

set_option maxRecDepth 100000 in
set_option maxHeartbeats 4000000 in
theorem build_any (w0 : World) (gm : Nat) (hgm : w0.heap.size ≤ gm) : ∀ (n : Nat) (p : Option Addr) (c K : Nat) (m : Value) (ms : List Value) (w : World), Lies w0 n p c → Below w0.heap.size w0 w → K + c ≤ 32768 → Arr w gm 34 [m] → OwnW w w0.heap.size 35 1 m K ms →
    Calls Try.prog 18 #[.pointer p, .pointer (some ⟨gm, 0, none⟩)] w fun e w' => ∃ q m' ns, e = .returned (.pointer q) ∧ Names w' (fun x => w.heap.size ≤ x) n q ns ∧ ns.length ≤ c ∧ Made w w' w0.heap.size gm K m ms m' ns := by
  intro n
  induction n with
  | zero => intro p c K m ms w h; exact False.elim h
  | succ n ih =>
    intro p c K m ms w hL hb hKc hM hO
    have hmade0 : Made w w w0.heap.size gm K m ms m [] := ⟨hM, by simpa using hO, Places.nil _ _, Fr.refl _ _, .inl rfl⟩
    rcases hL with ⟨rfl, rfl⟩ | ⟨b, o, sa, len, cap, cs, rfl, h2, h3, h4, h5, h6⟩
    · go_enter Try.func18, Try.ntmps18
      go_wp2
      go_ret
      exact ⟨none, m, [], rfl, .inl ⟨rfl, rfl⟩, by simp, hmade0⟩
    · have HC : Hid (c = 1 + len + cs.sum) := h4
      have hlen : len ≤ 32768 := by omega
      have H6 : Hid (∀ i, i < len → ∃ pb po named id q, sa = some ⟨pb, po, none⟩ ∧ SlotAt w0 pb po i named id q ∧ (named = true → cs[i]? = some 0) ∧ (named = false → ∃ ci, cs[i]? = some ci ∧ Lies w0 n q ci)) := h6
      clear h4 h6
      go_enter Try.func18, Try.ntmps18
      go_upto_block 0 with (go_at_call 24; refine (newNode_any _).mono ?_; rintro e w1 ⟨g, rfl, hg, hN1, hb1⟩)
      have hnode1 : Node w w1 n g (.slice none 0 0) [] [] := ⟨hN1, OwnW.nil _ _ _ _, Kids.nil _⟩
      have hmade1 := hmade0.fresh (Fr.ofBelow hb1)
      have hbw1 : Below w0.heap.size w0 w1 := hb.trans (hb1.mono hb.size)
      clear hmade0 hN1 hb1 hM hO
      go_wp2
      go_loopw [6, 7, 8] (fun i _ _ wr => ∃ (j : Nat) (s : Value) (xs : List Value) (Ls : List (List Value)) (m' : Value), j ≤ len ∧ i = .int .i64 j ∧ Hid (Ls.length = j) ∧ Hid (Ls.flatten.length ≤ j + (cs.take j).sum) ∧ w.heap.size ≤ wr.heap.size ∧ Below w0.heap.size w0 wr ∧ Node w wr n g s xs Ls ∧ Made w wr w0.heap.size gm K m ms m' Ls.flatten) (fun i _ _ _ => len - (intOf i).toNat)
      case atStart => exact ⟨0, .slice none 0 0, [], [], m, Nat.zero_le _, rfl, (rfl : ([] : List (List Value)).length = 0), Nat.zero_le _, hmade1.fr.size, hbw1, hnode1, hmade1⟩
      case round =>
        clear hnode1 hmade1 hbw1
        obtain ⟨j, s, xs, Ls, m', hj, rfl, HLs, HFl, hwr, hbr, hnode, hmade⟩ := hrel
        have c2 := cell_later hbr h2
        by_cases hlt : j < len
        · obtain ⟨pb, po, named, id, q, rfl, hs0, g1, g2⟩ := H6.out j hlt
          obtain ⟨s1, s2, s3⟩ := hs0.below hbr
          have hji : (j : Int) < (len : Int) := by omega
          have hrange : wr.rangeAt pb (po + j * 3) [.bool named, .int .i32 id, .pointer q] := fun i v hv => by
            match i, hv with
            | 0, hv => simp at hv; rw [← hv]; exact s1
            | 1, hv => simp at hv; rw [← hv]; exact s2
            | 2, hv => simp at hv; rw [← hv]; exact s3
            | i + 3, hv => simp at hv
          clear s1 s2 s3
          go_upto_region 8 with (first
            | (refine wpList_load_mid rfl 51 (.tmp 26) rfl pb (po + j * 3) rfl _ _ hrange Try.underlying51 rfl (Try.info51 _ _ _) ?_)
            | (refine wpList_alloc_abs rfl 51 rfl _ Try.zero51 ?_; intro gs wa hgs hgsl hGS hba)
            | (refine wpList_store_abs rfl 51 (.tmp 7) (.tmp 27) rfl gs rfl 51 _ [.bool named, .int .i32 id, .pointer q] rfl hGS rfl (Try.info51 _ _ _) (by simp [Value.oneCell']) ?_; intro wb hGb hbb hob))
          have frb : Fr (fun _ => False) wr wb := (Fr.ofBelow hba).trans (Fr.ofStore hbb hob) (fun x hx e => by omega)
          have hnb := hnode.fresh frb
          have hmb := hmade.fresh frb
          have hb0 : Below w0.heap.size w0 wb := hbr.trans (frb.below hbr.size (fun _ _ h => h))
          have hwb : w.heap.size ≤ wb.heap.size := Nat.le_trans hwr frb.size
          have k0 : wb.cell? ⟨gs, 0, none⟩ = some (.bool named) := by rw [hGb.cell]; rfl
          have k1 : wb.cell? ⟨gs, 1, none⟩ = some (.int .i32 id) := by rw [hGb.cell]; rfl
          have k2 : wb.cell? ⟨gs, 2, none⟩ = some (.pointer q) := by rw [hGb.cell]; rfl
          have hgl := hnb.var.lt
          obtain ⟨ma, mc, rfl⟩ := hmb.own.shape
          have km : wb.cell? ⟨gm, 0, none⟩ = some (.slice ma (K + Ls.flatten.length) mc) := by rw [hmb.var.cell]; rfl
          obtain ⟨N, hN⟩ : ∃ N, N = K + Ls.flatten.length := ⟨_, rfl⟩
          have hts : (cs.take j).sum + (cs.drop j).sum = cs.sum := by rw [← List.sum_append, List.take_append_drop]
          have hNb : N < K + c := by have := HFl.out; have := HC.out; omega
          have HN : Hid (N = K + Ls.flatten.length) := hN
          rw [← hN] at km hmb
          clear frb hnode hmade hbr hwr hrange hGb hbb hob hba hGS c2 hN
          cases named with
          | true =>
            have e0 : cs[j]? = some 0 := g1 rfl
            have HT : Hid ((cs.take (j + 1)).sum = (cs.take j).sum + 0) := take_sum cs j 0 e0
            clear g1 g2 e0 hs0 hts ih
            go_upto_region 9 with fail
            go_still_tail 6, (by kernel_rfl)
            go_upto_region 10 with (go_at_call 17; refine (newName_any id (N : Int) _).mono ?_; rintro e wc ⟨gx, vsx, rfl, hgx, hX, hp, hbx⟩)
            have frc : Fr (fun _ => False) wb wc := ((Fr.refl (fun _ => False) wb).drewN 1).trans (Fr.ofBelow hbx) (fun _ _ h => h)
            obtain ⟨nm, hnm⟩ : ∃ nm, nm = Value.pointer (some ⟨gx, 0, none⟩) := ⟨_, rfl⟩
            have hb1 : Below wc.heap.size wc (wc.alloc (.cells #[.pointer (some ⟨gx, 0, none⟩)] 35)) := (Below.refl _ _).alloc (Nat.le_refl _) _
            have frd : Fr (fun _ => False) wb (wc.alloc (.cells #[.pointer (some ⟨gx, 0, none⟩)] 35)) := frc.trans (Fr.ofBelow hb1) (fun _ _ h => h)
            have hnd := hnb.fresh frd
            have hmd := hmb.fresh frd
            have hwd := Nat.le_trans hwb frd.size
            have hbd : Below w0.heap.size w0 (wc.alloc (.cells #[.pointer (some ⟨gx, 0, none⟩)] 35)) := hb0.trans (frd.below hb0.size (fun _ _ h => h))
            have hpl : Places (wc.alloc (.cells #[.pointer (some ⟨gx, 0, none⟩)] 35)) N [nm] := by rw [hnm]; exact Places.one (hX.below hb1 hX.lt) hp
            have kmc : wc.cell? ⟨gm, 0, none⟩ = some (.slice ma N mc) := by rw [(hmb.fresh frc).var.cell]; rfl
            have hS1 : OwnW (wc.alloc (.cells #[.pointer (some ⟨gx, 0, none⟩)] 35)) w0.heap.size 35 1 (.slice ma N mc) N (ms ++ Ls.flatten) := by have := hmd.own; rw [← HN.out] at this; exact this
            have hAX := Arr.new wc 35 [.pointer (some ⟨gx, 0, none⟩)]
            have hsrc : Src Try.prog 1 34 (.slice (some ⟨wc.heap.size, 0, none⟩) 1 1) 1 [nm] (wc.alloc (.cells #[.pointer (some ⟨gx, 0, none⟩)] 35)) :=
              Src.ofSlice _ Try.underlying34 ⟨wc.heap.size, 0, none⟩ 1 1 [nm] rfl (fun i u hu => by
                have hadd : (⟨wc.heap.size, 0, none⟩ : Addr).add i = ⟨wc.heap.size, 0 + i, none⟩ := by unfold Addr.add; split <;> simp_all
                have := hAX.cell i
                rw [hadd, Nat.zero_add]
                rw [hnm] at hu
                exact this.trans hu) (by rw [hnm]; simp [Value.oneCell'])
            have HNM : Hid (nm = Value.pointer (some ⟨gx, 0, none⟩)) := hnm
            have hB1 := hbd.size
            have hne : some gm ≠ (Value.slice ma N mc).ownBlock := fun e => by obtain ⟨_, vs, ha⟩ := hS1.arr e.symm; exact absurd (Arr.tag hmd.var ha) (by decide)
            clear hnm frc frd hnb hmb hb0 hX hp hbx km hAX k0 k1 k2
            go_upto_region 11 with (at_builtin; go_must (refine wpList_append_OwnW rfl _ _ 34 34 rfl w0.heap.size 35 (.pointer none) 1 8 Try.underlying34 Try.info35 rfl (.slice ma N mc) N (ms ++ Ls.flatten) rfl hS1 _ [nm] rfl hsrc hB1 (by unfold maxLen; omega) (by omega) ?_; intro g2 c2 w2 hS2 hG2 hblk; have hv2 := hmd.var.grown hG2 hne; have hc2 : w2.cell? ⟨gm, 0, none⟩ = some (.slice ma N mc) := (by rw [hv2.cell]; rfl); have hf2 := hv2.frozen 0))
            generalize hwe : w2.setCell ⟨gm, 0, none⟩ (.slice (some ⟨g2, 0, none⟩) (N + 1) c2) = we
            have hne2 : g2 ≠ gm := fun e => by
              obtain ⟨_, vs, ha⟩ := hS2.arr (k := g2) rfl
              rw [e] at ha
              exact absurd (Arr.tag hv2 ha) (by decide)
            have hme : Made w we w0.heap.size gm K m ms (.slice (some ⟨g2, 0, none⟩) (N + 1) c2) (Ls.flatten ++ [nm]) := by
              rw [← hwe]
              refine hmd.push hwd HN.out hpl hS2 (Fr.grown hG2 (fun k hk => hk)) ?_
              rcases hblk with h | h
              · exact .inl h
              · exact .inr (fun k hk => by simp [Value.ownBlock] at hk; omega)
            have hFe : Fr (fun x => x = gm ∨ (Value.slice ma N mc).ownBlock = some x) (wc.alloc (.cells #[.pointer (some ⟨gx, 0, none⟩)] 35)) we := by
              rw [← hwe]
              exact (Fr.grown (S := fun x => x = gm ∨ (Value.slice ma N mc).ownBlock = some x) hG2 (fun k hk => .inr hk)).trans (Fr.setCell (S := fun x => x = gm) rfl _) (fun x _ h => .inl h)
            have hne' := hnd.made hmd hFe
            have hbe : Below w0.heap.size w0 we := hbd.trans (hFe.below hbd.size (fun x hx h => by
              rcases h with h | h
              · omega
              · have := (hS1.arr h).1; omega))
            have hwe' := Nat.le_trans hwd hFe.size
            clear hwe hv2 hc2 hf2 hS2 hG2 hblk hmd hnd hFe hbd hpl kmc hS1 hsrc hb1
            go_wp2_with (go_at_call 25; refine (addName_any g w.heap.size Ls.length s xs (some ⟨gx, 0, none⟩) we hne'.var hne'.own hwe' (by have := HLs.out; omega)).mono ?_; rintro e wd ⟨r, s', rfl, hV, hO2, hF2, ht2⟩)
            have hnd := hne'.add hwe' hF2 hV [nm] (some ⟨gx, 0, none⟩) none hO2 ht2 (.inl ⟨by simp, by rw [HNM.out]⟩)
            have hmd := hme.node hne' hg hF2
            have hbd : Below w0.heap.size w0 wd := hbe.trans (hF2.below hbe.size (fun x hx h => by
              have := hb.size
              rcases h with h | h
              · omega
              · have := (hne'.own.arr h).1; omega))
            have hfl : (Ls ++ [[nm]]).flatten = Ls.flatten ++ [nm] := by simp
            have HF' : Hid ((Ls ++ [[nm]]).flatten.length ≤ (j + 1) + (cs.take (j + 1)).sum) := by show _ ≤ _; rw [hfl, List.length_append, HT.out]; have := HFl.out; simp only [List.length_cons, List.length_nil]; omega
            have HL' : Hid ((Ls ++ [[nm]]).length = j + 1) := by show _ = _; rw [List.length_append, HLs.out]; rfl
            rw [← hfl] at hmd
            clear hne' hme hF2 hV hO2 ht2 hfl hbe
            go_roundw
            case rel => exact ⟨j + 1, s', _, Ls ++ [[nm]], _, by omega, by go_num, HL', HF', hmd.fr.size, hbd, hnd, hmd⟩
            case measure => simp [intOf]; omega
          | false =>
            obtain ⟨ci, e1, hL⟩ := g2 rfl
            have HT : Hid ((cs.take (j + 1)).sum = (cs.take j).sum + ci) := take_sum cs j ci e1
            have hts1 : (cs.take (j + 1)).sum + (cs.drop (j + 1)).sum = cs.sum := by rw [← List.sum_append, List.take_append_drop]
            have hNc : N + ci ≤ 32768 := by have := HFl.out; have := HC.out; have := HT.out; have := HN.out; omega
            clear g1 g2 e1 hs0 hts hts1
            go_wp2_with (first
              | (go_at_call 18; refine (ih q ci N (.slice ma N mc) (ms ++ Ls.flatten) wb hL hb0 hNc hmb.var (by have := hmb.own; rw [← HN.out] at this; exact this)).mono ?_; rintro e wc ⟨q', m2, ns2, rfl, hNm, hle, hMd2⟩)
              | (go_at_call 26; have hnc := hnb.made hmb hMd2.fr; have hmc := hmb.join hwb HN.out hMd2; refine (addNode_any g w.heap.size Ls.length s xs q' wc hnc.var hnc.own (Nat.le_trans hwb hMd2.fr.size) (by have := HLs.out; omega)).mono ?_; rintro e wd ⟨r, s', rfl, hV, hO2, hF2, ht2⟩))
            have hNm' : Names wc (fun x => w.heap.size ≤ x ∧ x ≠ g ∧ s.ownBlock ≠ some x) n q' ns2 := Names.keep (Fr.refl (fun _ => False) wc) (fun x e vs ha he hok => ⟨fun h => h, Nat.le_trans hwb hok, fun e => by omega, fun e => by obtain ⟨_, vs', ha'⟩ := hnb.own.arr e; have := ha'.lt; omega⟩) n q' ns2 hNm
            have hnd := hnc.add (Nat.le_trans hwb hMd2.fr.size) hF2 hV ns2 none q' hO2 ht2 (.inr ⟨rfl, hNm'⟩)
            have hmd := hmc.node hnc hg hF2
            have hbc : Below w0.heap.size w0 wc := hb0.trans (hMd2.fr.below hb0.size (fun x hx h => by
              rcases h with h | h
              · omega
              · have := (hmb.own.arr h).1; omega))
            have hbd : Below w0.heap.size w0 wd := hbc.trans (hF2.below hbc.size (fun x hx h => by
              have := hb.size
              rcases h with h | h
              · omega
              · have := (hnc.own.arr h).1; omega))
            have hfl : (Ls ++ [ns2]).flatten = Ls.flatten ++ ns2 := by simp
            have HF' : Hid ((Ls ++ [ns2]).flatten.length ≤ (j + 1) + (cs.take (j + 1)).sum) := by show _ ≤ _; rw [hfl, List.length_append, HT.out]; have := HFl.out; omega
            have HL' : Hid ((Ls ++ [ns2]).length = j + 1) := by show _ = _; rw [List.length_append, HLs.out]; rfl
            rw [← hfl] at hmd
            clear hnc hmc hnb hmb hMd2 hNm hNm' hF2 hV hO2 ht2 hfl hbc
            go_roundw
            case rel => exact ⟨j + 1, s', _, Ls ++ [ns2], m2, by omega, by go_num, HL', HF', hmd.fr.size, hbd, hnd, hmd⟩
            case measure => simp [intOf]; omega
        · go_wp2
          go_ret
          refine ⟨some ⟨g, 0, none⟩, m', Ls.flatten, rfl, hnode.names hg (by have := HLs.out; omega), ?_, hmade⟩
          have h := HFl.out
          rw [List.take_of_length_le (by omega)] at h
          rw [HC.out]
          omega
end Go.Proofs.Qxb6619225a
