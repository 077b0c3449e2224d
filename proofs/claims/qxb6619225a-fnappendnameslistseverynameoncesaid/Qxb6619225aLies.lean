/-
  The picture that came in (nameTreeFits' reading of it), and nameTreeFits' contract.
-/
import Derived.Test.Qxb6619225aLeaf
namespace Go.Proofs.Qxb6619225a
set_option linter.unusedVariables false
open Go.RowKit Mem

/-- One slot of the picture: its three cells. -/
def SlotAt (w : World) (pb po i : Nat) (named : Bool) (id : Int) (q : Option Addr) : Prop :=
  w.cell? ⟨pb, po + i * 3, none⟩ = some (.bool named) ∧ w.cell? ⟨pb, po + i * 3 + 1, none⟩ = some (.int .i32 id) ∧ w.cell? ⟨pb, po + i * 3 + 2, none⟩ = some (.pointer q)

/-- The picture at p, of depth at most n, lies in the world; c: the nodes and slots that a visit counts. -/
def Lies (w : World) : Nat → Option Addr → Nat → Prop
  | 0, _, _ => False
  | n + 1, p, c => (p = none ∧ c = 0) ∨ ∃ (b o : Nat) (sa : Option Addr) (len cap : Nat) (cs : List Nat), p = some ⟨b, o, none⟩ ∧ w.cell? ⟨b, o, none⟩ = some (.slice sa len cap) ∧ len ≤ maxLen ∧ c = 1 + len + cs.sum ∧ cs.length = len ∧
      ∀ i, i < len → ∃ pb po named id q, sa = some ⟨pb, po, none⟩ ∧ SlotAt w pb po i named id q ∧ (named = true → cs[i]? = some 0) ∧ (named = false → ∃ ci, cs[i]? = some ci ∧ Lies w n q ci)

theorem cell_lt {w : World} {a : Addr} {v : Value} (h : w.cell? a = some v) : a.block < w.heap.size := World.block_lt_of_cell? _ _ h

theorem SlotAt.below {w w' : World} {pb po i : Nat} {named : Bool} {id : Int} {q : Option Addr} (h : SlotAt w pb po i named id q) (hb : Below w.heap.size w w') : SlotAt w' pb po i named id q :=
  ⟨cell_later hb h.1, cell_later hb h.2.1, cell_later hb h.2.2⟩

theorem Lies.below {w w' : World} (hb : Below w.heap.size w w') : ∀ n p c, Lies w n p c → Lies w' n p c
  | 0, _, _, h => False.elim h
  | n + 1, p, c, h => by
    rcases h with h | ⟨b, o, sa, len, cap, cs, h1, h2, h3, h4, h5, h6⟩
    · exact .inl h
    · refine .inr ⟨b, o, sa, len, cap, cs, h1, cell_later hb h2, h3, h4, h5, fun i hi => ?_⟩
      obtain ⟨pb, po, named, id, q, e, hs, g1, g2⟩ := h6 i hi
      exact ⟨pb, po, named, id, q, e, hs.below hb, g1, fun hn => by obtain ⟨ci, e1, e2⟩ := g2 hn; exact ⟨ci, e1, Lies.below hb n q ci e2⟩⟩

theorem take_sum (cs : List Nat) (j c : Nat) (h : cs[j]? = some c) : (cs.take (j + 1)).sum = (cs.take j).sum + c := by
  rw [List.take_add_one, h]
  simp

set_option maxRecDepth 100000 in
set_option maxHeartbeats 2000000 in
theorem fits_any (w0 : World) (gb : Nat) (hgb : w0.heap.size ≤ gb) : ∀ (n : Nat) (p : Option Addr) (c d : Nat) (k : Int) (w : World), Lies w0 n p c → d ≤ 65 → 0 ≤ k → k ≤ 32768 → Arr w gb 3 [.int .i64 k] → Below w0.heap.size w0 w →
    Calls Try.prog 16 #[.pointer p, .int .i64 d, .pointer (some ⟨gb, 0, none⟩)] w fun e w' => ∃ r k', e = .returned (.bool r) ∧ Arr w' gb 3 [.int .i64 k'] ∧ Fr (fun x => x = gb) w w' ∧ (r = true → k' = k - c ∧ 0 ≤ k') := by
  intro n
  induction n with
  | zero => intro p c d k w h; exact False.elim h
  | succ n ih =>
    intro p c d k w hL hd hk0 hk1 hG hb
    rcases hL with ⟨rfl, rfl⟩ | ⟨b, o, sa, len, cap, cs, rfl, h2, h3, h4, h5, h6⟩
    · go_enter Try.func16, Try.ntmps16
      go_wp2
      go_ret
      exact ⟨true, k, rfl, hG, Fr.refl _ _, fun _ => ⟨by omega, hk0⟩⟩
    · unfold maxLen at h3
      have c1 : w.cell? ⟨gb, 0, none⟩ = some (.int .i64 k) := by rw [hG.cell]; rfl
      have f1 := hG.frozen 0
      have c2 := cell_later hb h2
      have q1 : IntKind.i64.wrap (k - 1) = k - 1 := by rw [IntKind.wrap_i64]; omega
      have q2 : IntKind.i64.wrap (k - 1 - (len : Int)) = k - 1 - (len : Int) := by rw [IntKind.wrap_i64]; omega
      have HC : Hid (c = 1 + len + cs.sum) := h4
      have H6 : Hid (∀ i, i < len → ∃ pb po named id q, sa = some ⟨pb, po, none⟩ ∧ SlotAt w0 pb po i named id q ∧ (named = true → cs[i]? = some 0) ∧ (named = false → ∃ ci, cs[i]? = some ci ∧ Lies w0 n q ci)) := h6
      clear h4 h6
      by_cases hd64 : d ≤ 64
      · go_enter Try.func16, Try.ntmps16
        go_upto_region 5 with fail
        go_still_tail 12, (by kernel_rfl)
        go_upto_region 6 with fail
        generalize hw5 : (w.setCell ⟨gb, 0, none⟩ (.int .i64 (k - 1 - (len : Int)))).drew = w5
        have hG5 : Arr w5 gb 3 [.int .i64 (k - 1 - (len : Int))] := by rw [← hw5]; exact hG.set 0 _
        have hF5 : Fr (fun x => x = gb) w w5 := by rw [← hw5]; exact (Fr.setCell (S := fun x => x = gb) rfl _).drewN 1
        have hb5 : Below w0.heap.size w0 w5 := by rw [← hw5]; exact (hb.setCell (by simpa using hgb) _).drew
        have c5 : w5.cell? ⟨gb, 0, none⟩ = some (.int .i64 (k - 1 - (len : Int))) := by rw [hG5.cell]; rfl
        clear hw5 c1 f1 c2 hb hG
        by_cases hneg : k - 1 - (len : Int) < 0
        · go_wp2
          go_ret
          exact ⟨false, _, rfl, hG5, hF5, fun h => by cases h⟩
        · go_wp2
          go_loopw [7] (fun i wr => ∃ (j : Nat) (k' : Int), j ≤ len ∧ i = .int .i64 j ∧ 0 ≤ k' ∧ k' ≤ k ∧ Arr wr gb 3 [.int .i64 k'] ∧ Fr (fun x => x = gb) w wr ∧ Below w0.heap.size w0 wr ∧ Hid (k' = k - 1 - len - ((cs.take j).sum : Nat))) (fun i _ => len - (intOf i).toNat)
          case atStart => exact ⟨0, _, Nat.zero_le _, rfl, by omega, by omega, hG5, hF5, hb5, by show _ = _; simp⟩
          case round =>
            clear hG5 hF5 hb5 c5
            obtain ⟨j, k', hj, rfl, hk0', hk1', hG', hF', hb', HK⟩ := hrel
            have c2 := cell_later hb' h2
            by_cases hlt : j < len
            · obtain ⟨pb, po, named, id, q, rfl, hs0, g1, g2⟩ := H6.out j hlt
              obtain ⟨s1, s2, s3⟩ := hs0.below hb'
              have hji : (j : Int) < (len : Int) := by omega
              cases named with
              | true =>
                have e0 : cs[j]? = some 0 := g1 rfl
                have HK' : Hid (k' = k - 1 - len - ((cs.take (j + 1)).sum : Nat)) := by show _ = _; rw [take_sum cs j 0 e0]; exact HK.out
                clear g1 g2 e0 hs0 ih
                go_wp2
                go_roundw
                case rel => exact ⟨j + 1, k', by omega, by go_num, hk0', hk1', hG', hF', hb', HK'⟩
                case measure => simp [intOf]; omega
              | false =>
                obtain ⟨ci, e1, hL⟩ := g2 rfl
                have HT : Hid ((cs.take (j + 1)).sum = (cs.take j).sum + ci) := take_sum cs j ci e1
                have HD : (d : Int) + 1 = ((d + 1 : Nat) : Int) := by omega
                have HD' : Hid ((d : Int) + 1 = ((d + 1 : Nat) : Int)) := HD
                clear g1 g2 e1 hs0 HD
                go_wp2_with (go_at_call 16; rw [HD'.out]; refine (ih q ci (d + 1) k' wr hL (by omega) hk0' (by omega) hG' hb').mono ?_; rintro e w6 ⟨r, k6, rfl, hG6, hF6, hr6⟩; cases r)
                · go_ret
                  exact ⟨false, k6, rfl, hG6, hF'.trans hF6 (fun x _ h => h), fun h => by cases h⟩
                · obtain ⟨hk6, hk6'⟩ := hr6 trivial
                  have HK' : Hid (k6 = k - 1 - len - ((cs.take (j + 1)).sum : Nat)) := by show _ = _; rw [hk6, HK.out, HT.out]; push_cast; omega
                  have hk7 : k6 ≤ k := by omega
                  clear hk6
                  go_roundw
                  case rel => exact ⟨j + 1, k6, by omega, by go_num, hk6', hk7, hG6, hF'.trans hF6 (fun x _ h => h), hb'.trans (hF6.below hb'.size (fun x hx e => by omega)), HK'⟩
                  case measure => simp [intOf]; omega
            · go_wp2
              go_ret
              refine ⟨true, k', rfl, hG', hF', fun _ => ⟨?_, hk0'⟩⟩
              have h := HK.out
              rw [List.take_of_length_le (by omega)] at h
              rw [HC.out]
              omega
      · go_enter Try.func16, Try.ntmps16
        go_wp2
        go_ret
        exact ⟨false, k, rfl, hG, Fr.refl _ _, fun h => by cases h⟩

end Go.Proofs.Qxb6619225a
