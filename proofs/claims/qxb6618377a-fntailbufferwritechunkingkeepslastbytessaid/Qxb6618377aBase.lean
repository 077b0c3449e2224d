/-
  What the walks of this seat say of slices of bytes. 'Rd': a slice reads as the list zs. 'Own': a slice that the call made, at a place in a row of its own.
-/
import Derived.Test.Qxb6618377aRows
import Derived.Test.Qxb6618377aMem
namespace Go.Proofs.Qxb6618377a
open Go.RowKit Mem

def U (zs : List Int) : List Value := zs.map (Value.int .u8)
theorem U_length (zs : List Int) : (U zs).length = zs.length := by simp [U]
theorem U_get (zs : List Int) (k : Nat) (h : k < zs.length) : (U zs)[k]? = some (.int .u8 (zs.getD k 0)) := by
  simp [U, List.getElem?_eq_getElem h, List.getD_eq_getElem?_getD]
theorem U_one (zs : List Int) : ∀ u ∈ U zs, u.oneCell' = true := by
  intro u hu
  obtain ⟨_, _, rfl⟩ := List.mem_map.1 hu
  rfl

/-- The slice at 'a', of length 'len', reads as zs in w. -/
def Rd (w : World) (a : Option Addr) (len : Nat) (zs : List Int) : Prop :=
  zs.length = len ∧ (0 < len → ∃ b off, a = some ⟨b, off, none⟩ ∧ ∀ i, i < len → w.cell? ⟨b, off + i, none⟩ = some (.int .u8 (zs.getD i 0)))

theorem Rd.below {w w' : World} {a : Option Addr} {len : Nat} {zs : List Int} (h : Rd w a len zs) (hb : Below w.heap.size w w') : Rd w' a len zs := by
  refine ⟨h.1, fun hp => ?_⟩
  obtain ⟨b, off, e, hc⟩ := h.2 hp
  exact ⟨b, off, e, fun i hi => cell_later hb (hc i hi)⟩

theorem Rd.belowB {w w' : World} {a : Option Addr} {len : Nat} {zs : List Int} {B : Nat} (h : Rd w a len zs) (hB : w.heap.size ≤ B) (hb : Below B w w') : Rd w' a len zs :=
  h.below (hb.mono hB)

/-- A slice that the call made: nil, or a stretch of a row from block B on. -/
def Own (w : World) (B : Nat) (v : Value) (zs : List Int) : Prop := OwnV w B 5 v (U zs)

theorem Own.below {w w' : World} {B : Nat} {v : Value} {zs : List Int} (h : Own w B v zs) (hb : Below w.heap.size w w') : Own w' B v zs := OwnV.below h (Nat.le_refl _) hb

theorem Own.rd {w : World} {B : Nat} {v : Value} {zs : List Int} (h : Own w B v zs) : ∃ a cap, v = .slice a zs.length cap ∧ Rd w a zs.length zs := by
  rcases h with ⟨rfl, hz⟩ | ⟨g, off, cap, vs, rfl, hg, ha, h1, h2, h3, h4⟩
  · obtain rfl : zs = [] := by simpa [U] using hz
    exact ⟨none, 0, rfl, rfl, fun h => absurd h (by simp)⟩
  · exact ⟨_, cap, by rw [U_length], rfl, fun _ => ⟨g, off, rfl, fun i hi => by rw [ha.cell, h4 i (by rw [U_length]; exact hi), U_get _ _ hi]⟩⟩

theorem Rd.cells {w : World} {a : Option Addr} {len : Nat} {zs : List Int} (h : Rd w a len zs) : 0 < len → ∃ ad, a = some ad ∧ ∀ j v, (U zs)[j]? = some v → w.cell? (ad.add j) = some v := by
  intro h0
  obtain ⟨b, off, rfl, hc⟩ := h.2 h0
  refine ⟨_, rfl, fun j u hu => ?_⟩
  have hj : j < zs.length := by have := (List.getElem?_eq_some_iff.1 hu).1; simpa [U] using this
  have hadd : (⟨b, off, none⟩ : Addr).add j = ⟨b, off + j, none⟩ := by unfold Addr.add; split <;> simp_all
  rw [hadd, hc j (by rw [← h.1]; exact hj), ← U_get zs j hj, hu]

/-- A row of the call's own reads so. -/
theorem Rd.ofArr {w : World} {g : Nat} {zs : List Int} (h : Arr w g 5 (U zs)) : Rd w (some ⟨g, 0, none⟩) zs.length zs :=
  ⟨rfl, fun _ => ⟨g, 0, rfl, fun i hi => by rw [Nat.zero_add, h.cell, U_get _ _ hi]⟩⟩

/-- What an append reads of such a slice. -/
theorem Rd.src {w : World} {a : Option Addr} {len : Nat} {zs : List Int} (h : Rd w a len zs) (c : Nat) : Src Try.prog 1 22 (.slice a len c) len (U zs) w := by
  obtain ⟨rfl, h⟩ := h
  rcases Nat.eq_zero_or_pos zs.length with h0 | h0
  · obtain rfl : zs = [] := List.eq_nil_of_length_eq_zero h0
    cases a with
    | none => exact Src.ofNil w Try.underlying22 c
    | some x => exact Src.ofSlice w Try.underlying22 x 0 c [] (by simp) (fun j u hu => by simp at hu) (fun u hu => by cases hu)
  · obtain ⟨b, off, rfl, hc⟩ := h h0
    refine Src.ofSlice w Try.underlying22 _ _ c (U zs) (by simp [U]) (fun j u hu => ?_) (U_one zs)
    have hj : j < zs.length := by have := (List.getElem?_eq_some_iff.1 hu).1; simpa [U] using this
    have hadd : (⟨b, off, none⟩ : Addr).add j = ⟨b, off + j, none⟩ := by unfold Addr.add; split <;> simp_all
    rw [hadd, hc j hj, ← U_get zs j hj, hu]

theorem Try.info5 : (Try.prog.info? 5).map (fun i => (i.zero, i.size, i.bytes)) = some (some (.int .u8 0), 1, 1) := by kernel_rfl

theorem set_prefix' {vs : List Value} {zs : List Int} {k : Nat} (hl : vs.length = zs.length) (hk : k < zs.length) (h : ∀ i, i < k → vs[i]? = some (.int .u8 (zs.getD i 0))) :
    ∀ i, i < k + 1 → (vs.set k (.int .u8 zs[k]))[i]? = some (.int .u8 (zs.getD i 0)) := by
  intro i hi
  rw [List.getElem?_set]
  by_cases e : k = i
  · subst e; simp [hl, hk]
  · simp [e]; simpa using h i (by omega)
theorem set_prefix {vs : List Value} {zs : List Int} {k : Nat} (hl : vs.length = zs.length) (hk : k < zs.length) (h : ∀ i, i < k → vs[i]? = some (.int .u8 (zs.getD i 0))) :
    ∀ i, i < k + 1 → (vs.set k (.int .u8 (zs.getD k 0)))[i]? = some (.int .u8 (zs.getD i 0)) := by
  intro i hi
  rw [List.getElem?_set]
  by_cases e : k = i
  · subst e; simp [hl, hk]
  · simp [e]; simpa using h i (by omega)

set_option maxHeartbeats 400000 in
theorem clone_any (a : Option Addr) (len cap B : Nat) (zs : List Int) (w : World) (hB : B ≤ w.heap.size) (h : Rd w a len zs) (hlen : len ≤ 65536) :
    Calls Try.prog 6 #[.slice a len cap] w fun e w' => ∃ v, e = .returned v ∧ Own w' B v zs ∧ Below w.heap.size w w' := by
  have q : ∀ w : World, (binOp .eql 22 (.slice a len cap) (.slice none 0 0)).run Try.prog w = .ok (.bool a.isNone) w := fun w => Lib.run_eql_slice_nil w 22 5 a len cap 0 0 Try.underlying22
  obtain ⟨hzl, hrd⟩ := h
  cases hna : a.isNone with
  | true =>
    have hl0 : len = 0 := by
      rcases Nat.eq_zero_or_pos len with h | h
      · exact h
      · obtain ⟨b, off, e, _⟩ := hrd h; simp [e] at hna
    obtain rfl : a = none := by simpa using hna
    subst hl0
    clear hna hrd
    go_enter Try.func6, Try.ntmps6
    go_wp2
    go_ret
    exact ⟨_, rfl, .inl ⟨rfl, by simp [U]; simpa using hzl⟩, Below.refl _ _⟩
  | false =>
    rw [hna] at q
    clear hna
    go_enter Try.func6, Try.ntmps6
    go_wp2_with (at_make; refine wpList_make_abs rfl _ _ 22 rfl 5 (.int .u8 0) 1 Try.underlying22 Try.info5 rfl .i64 .i64 len _ _ rfl rfl rfl rfl (by omega) (by omega) ?_; intro g w1 hg hgl hArr hbel)
    clear q
    go_loopw [4] (fun i wr => ∃ (k : Nat) (vs : List Value), k ≤ len ∧ i = .int .i64 k ∧ vs.length = zs.length ∧ Arr wr g 5 vs ∧ (∀ i, i < k → vs[i]? = some (.int .u8 (zs.getD i 0))) ∧ Below w.heap.size w wr) (fun i _ => len - (intOf i).toNat)
    case atStart => exact ⟨0, _, Nat.zero_le _, rfl, by simp [hzl], hArr, fun i hi => absurd hi (by omega), hbel⟩
    case round =>
      obtain ⟨k, vs, hk, rfl, hvl, hA, hpre, hb⟩ := hrel
      by_cases hlt : k < len
      · obtain ⟨b, off, rfl, hc⟩ := hrd (by omega)
        have hcell := cell_later hb (hc k hlt)
        have hcg : wr.cell? ⟨g, k, none⟩ = some (vs[k]'(by omega)) := by rw [hA.cell]; exact List.getElem?_eq_getElem (by omega)
        have hfg := hA.frozen k
        clear hrd hc
        go_wp2
        go_roundw
        case rel => exact ⟨k + 1, _, by omega, by go_num, by simpa using hvl, hA.set k _, set_prefix' hvl (by omega) hpre, hb.setCell (by simpa using hg) _⟩
        case measure => simp [intOf]; omega
      · go_wp2
        go_ret
        refine ⟨_, rfl, .inr ⟨g, 0, len, vs, by simp [hzl, U], by omega, hA, by rw [U_length]; omega, by omega, by unfold maxLen; omega, fun i hi => by rw [U_length] at hi; rw [Nat.zero_add, U_get _ _ hi]; exact hpre i (by omega)⟩, hb⟩
end Go.Proofs.Qxb6618377a
