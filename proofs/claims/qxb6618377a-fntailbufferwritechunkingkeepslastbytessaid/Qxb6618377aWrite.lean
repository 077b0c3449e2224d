/-
  (*tailBuffer).Write and ZZTailWrite: behind a Write of p the buffer holds the last 4096 bytes of what it held and p.
-/
import Derived.Test.Qxb6618377aLast
namespace Go.Proofs.Qxb6618377a
open Go.RowKit Mem

theorem own_drop {w : World} {B g off cap n k : Nat} {zs : List Int} (h : Own w B (.slice (some ⟨g, off, none⟩) n cap) zs) (hk : k ≤ n) : Own w B (.slice (some ⟨g, off + k, none⟩) (n - k) (cap - k)) (zs.drop k) := by
  rcases h with ⟨h, _⟩ | ⟨g', off', cap', vs, h, hB, ha, h1, h2, h3, h4⟩
  · simp at h
  · simp only [Value.slice.injEq, Option.some.injEq, Addr.mk.injEq, and_true] at h
    obtain ⟨⟨rfl, rfl⟩, rfl, rfl⟩ := h
    rw [U_length] at hk h1
    refine .inr ⟨g, off + k, cap - k, vs, by simp [U], hB, ha, by simp [U]; omega, by omega, by omega, fun i hi => ?_⟩
    simp [U] at hi
    rw [Nat.add_assoc, h4 (k + i) (by rw [U_length]; omega)]
    simp [U]

theorem own_shape {w : World} {B n c : Nat} {a : Option Addr} {zs : List Int} (h : Own w B (.slice a n c) zs) : n = zs.length ∧ (0 < n → ∃ g off, a = some ⟨g, off, none⟩ ∧ n ≤ c ∧ c ≤ maxLen) := by
  rcases h with ⟨h, h'⟩ | ⟨g', off', cap', vs, h, hB, ha, h1, h2, h3, h4⟩
  · simp at h; have : zs = [] := by simpa [U] using h'
    subst this; exact ⟨by simp [h], fun h0 => by omega⟩
  · simp only [Value.slice.injEq] at h
    obtain ⟨rfl, rfl, rfl⟩ := h
    exact ⟨U_length _, fun _ => ⟨g', off', rfl, h1, h3⟩⟩

set_option maxRecDepth 100000 in
set_option maxHeartbeats 800000 in
theorem write_any (pb B : Nat) (av : Option Addr) (nv cv : Nat) (zs ys : List Int) (ap : Option Addr) (lp cp : Nat) (w : World) (hbox : Arr w pb 32 [.slice av nv cv]) (hv : Own w B (.slice av nv cv) zs) (hne : (Value.slice av nv cv).ownBlock ≠ some pb) (hB : B ≤ pb)
    (hp : Rd w ap lp ys) (h1 : nv ≤ 65536) (h2 : lp ≤ 131072) :
    Calls Try.prog 8 #[.pointer (some ⟨pb, 0, none⟩), .slice ap lp cp] w fun e w' => e = .returned (.tuple #[.int .i64 lp, .nilIface]) ∧
      ∃ a c, Arr w' pb 32 [.slice a (lastN (zs ++ ys)).length c] ∧ Own w' B (.slice a (lastN (zs ++ ys)).length c) (lastN (zs ++ ys)) ∧ Below B w w' := by
  obtain rfl := hp.1
  obtain ⟨rfl, -⟩ := own_shape hv
  have hc0 : w.cell? ⟨pb, 0, none⟩ = some (.slice av zs.length cv) := by rw [hbox.cell]; rfl
  have hsrc := hp.src cp
  have hpbl := hbox.lt
  have hnew : ∀ {a' : Option Addr} {c' : Nat} {w1 : World}, OwnV w1 B 5 (.slice a' (zs.length + ys.length) c') (U zs ++ U ys) → Own w1 B (.slice a' (zs.length + ys.length) c') (zs ++ ys) := by
    intro a' c' w1 h; simpa [Own, U] using h
  have hgb : ∀ k, (Value.slice av zs.length cv).ownBlock = some k → B ≤ k := fun k hk => (OwnV.ge hv k hk).1
  have hpb' : ∀ {v' : Value}, (v'.ownBlock = (Value.slice av zs.length cv).ownBlock ∨ ∀ k, v'.ownBlock = some k → w.heap.size ≤ k) → v'.ownBlock ≠ some pb := by
    intro v' h e
    rcases h with h | h
    · exact hne (by rw [← h, e])
    · have := h pb e; omega
  by_cases hbig : 4096 < zs.length + ys.length
  · go_enter Try.func8, Try.ntmps8
    go_wp2_with (at_builtin; go_must (refine wpList_append_OwnV rfl _ _ 22 22 rfl B 5 (.int .u8 0) 1 Try.underlying22 Try.info5 rfl (.slice av zs.length cv) (U zs) rfl hv _ ys.length (U ys) rfl hsrc (by omega) (zs.length + ys.length) (by rw [U_length]) (by unfold maxLen; omega) (by omega) ?_; intro a' c' w1 hown1 hgrow1 hblk1; have hbox1 := hbox.grown hgrow1 (Ne.symm hne); have hc1 : w1.cell? ⟨pb, 0, none⟩ = some (.slice av zs.length cv) := (by rw [hbox1.cell]; rfl); have hf1 := hbox1.frozen 0; obtain ⟨g, off, rfl, hle, hcm⟩ := (own_shape (hnew hown1)).2 (by omega); unfold maxLen at hcm))
    go_ret2
    have hl : (lastN (zs ++ ys)).length = zs.length + ys.length - (zs.length + ys.length - 4096) := by simp [lastN]
    have hd : lastN (zs ++ ys) = (zs ++ ys).drop (zs.length + ys.length - 4096) := by simp [lastN]
    rw [hl]
    refine ⟨rfl, some ⟨g, off + (zs.length + ys.length - 4096), none⟩, c' - (zs.length + ys.length - 4096), ?_, ?_, ?_⟩
    · simpa using (hbox1.set 0 _).set 0 _
    · rw [hd]
      exact own_drop (OwnV.other (OwnV.other (hnew hown1) (hpb' hblk1) _) (hpb' hblk1) _) (by omega)
    · exact ((((Below.refl _ _).grown hgrow1 (by omega) hgb)).setCell (by simpa using hB) _).setCell (by simpa using hB) _
  · have hlast : lastN (zs ++ ys) = zs ++ ys := by unfold lastN; rw [show (zs ++ ys).length - 4096 = 0 by simp; omega]; rfl
    rw [hlast]
    clear hlast
    go_enter Try.func8, Try.ntmps8
    go_wp2_with (at_builtin; go_must (refine wpList_append_OwnV rfl _ _ 22 22 rfl B 5 (.int .u8 0) 1 Try.underlying22 Try.info5 rfl (.slice av zs.length cv) (U zs) rfl hv _ ys.length (U ys) rfl hsrc (by omega) (zs.length + ys.length) (by rw [U_length]) (by unfold maxLen; omega) (by omega) ?_; intro a' c' w1 hown1 hgrow1 hblk1; have hbox1 := hbox.grown hgrow1 (Ne.symm hne); have hc1 : w1.cell? ⟨pb, 0, none⟩ = some (.slice av zs.length cv) := (by rw [hbox1.cell]; rfl); have hf1 := hbox1.frozen 0))
    go_ret2
    refine ⟨rfl, a', c', ?_, ?_, ?_⟩
    · simpa using hbox1.set 0 _
    · rw [List.length_append]
      exact OwnV.other (hnew hown1) (hpb' hblk1) _
    · exact (((Below.refl _ _).grown hgrow1 (by omega) hgb)).setCell (by simpa using hB) _

set_option maxRecDepth 100000 in
set_option maxHeartbeats 800000 in
theorem tail_any (B : Nat) (v : Value) (zs ys : List Int) (ap : Option Addr) (lp cp : Nat) (w : World) (hv : Own w B v zs) (hB : B ≤ w.heap.size) (hp : Rd w ap lp ys) (h1 : zs.length ≤ 65536) (h2 : lp ≤ 131072) :
    Calls Try.prog 5 #[v, .slice ap lp cp] w fun e w' => ∃ v', e = .returned (.tuple #[v', .int .i64 lp, .nilIface]) ∧ Own w' B v' (lastN (zs ++ ys)) ∧ Below B w w' ∧ w.heap.size ≤ w'.heap.size := by
  obtain ⟨av, nv, cv, rfl⟩ : ∃ av nv cv, v = .slice av nv cv := by obtain ⟨a, c, h⟩ := OwnV.shape hv; exact ⟨_, _, _, h⟩
  have hnv := (own_shape hv).1
  have hlt := fun k hk => (OwnV.ge hv k hk).2
  have HNV : Hid (nv = zs.length) := hnv
  have hnv1 : nv ≤ 65536 := by omega
  clear hnv
  go_enter Try.func5, Try.ntmps5
  go_wp2_with fail
  have hbel : Below w.heap.size w (w.alloc (.cells #[.slice av nv cv] 32)) := (Below.refl _ _).alloc (Nat.le_refl _) _
  refine (write_any w.heap.size B av nv cv zs ys ap lp cp _ (Arr.new w 32 [.slice av nv cv]) (hv.below hbel) (by intro e; have := hlt _ e; omega) hB (hp.below hbel) hnv1 h2).mono ?_
  rintro e w' ⟨rfl, a, c, hbox, hown, hb⟩
  have hc : w'.cell? ⟨w.heap.size, 0, none⟩ = some (.slice a (lastN (zs ++ ys)).length c) := by rw [hbox.cell]; rfl
  have hsz := hb.size
  simp only [World.size_alloc] at hsz
  go_wp2
  go_ret3
  exact ⟨_, rfl, hown, ((hbel.mono hB).trans hb), by omega⟩
end Go.Proofs.Qxb6618377a
