/-
  xor and ZZxor: the bytes' exclusive or, place by place; nothing that was there turns.
-/
import Derived.Test.Qxb6618425aRows
import Derived.Test.Qxb6618425aMem
import Derived.RegionTactic
import Derived.BigRegion
import Derived.Deep.DeepCutAuto
namespace Go.Proofs.Qxb6618425a
open Go.RowKit Mem

def U (l : List Nat) : List Value := l.map fun (n : Nat) => Value.int .u8 (n : Int)
theorem U_length (l : List Nat) : (U l).length = l.length := by simp [U]
theorem U_get (l : List Nat) (k : Nat) (h : k < l.length) : (U l)[k]? = some (.int .u8 (l.getD k 0 : Nat)) := by
  simp [U, List.getElem?_eq_getElem h]
theorem U_one (l : List Nat) : ∀ u ∈ U l, u.oneCell' = true := by
  intro u hu
  obtain ⟨_, _, rfl⟩ := List.mem_map.1 hu
  rfl

/-- 32 bytes. -/
def Id32 (l : List Nat) : Prop := l.length = 32 ∧ ∀ k, l.getD k 0 < 256

def xorL (a b : List Nat) : List Nat := List.zipWith (· ^^^ ·) a b
theorem xorL_getD (a b : List Nat) (h : a.length = b.length) (k : Nat) : (xorL a b).getD k 0 = a.getD k 0 ^^^ b.getD k 0 := by
  simp only [xorL, List.getD_eq_getElem?_getD, List.getElem?_zipWith]
  by_cases hk : k < a.length
  · rw [List.getElem?_eq_getElem hk, List.getElem?_eq_getElem (by omega)]; rfl
  · rw [List.getElem?_eq_none (by omega), List.getElem?_eq_none (by omega)]; rfl
theorem xorL_id {a b : List Nat} (ha : Id32 a) (hb : Id32 b) : Id32 (xorL a b) := by
  refine ⟨by simp [xorL, ha.1, hb.1], fun k => ?_⟩
  rw [xorL_getD a b (by rw [ha.1, hb.1])]
  exact Nat.xor_lt_two_pow (n := 8) (ha.2 k) (hb.2 k)

theorem Try.zero27 : (Try.prog.info? 27).map (fun i => i.zero) = some (some (.agg (U (List.replicate 32 0)).toArray)) := by kernel_rfl
theorem Try.zero22 : (Try.prog.info? 22).map (fun i => i.zero) = some (some (.agg (U (List.replicate 32 0)).toArray)) := by kernel_rfl
theorem Try.size27 {l : List Nat} (h : Id32 l) : (Try.prog.info? 27).map (·.size) = some (U l).length := by rw [U_length, h.1]; kernel_rfl
theorem Try.size22 {l : List Nat} (h : Id32 l) : (Try.prog.info? 22).map (·.size) = some (U l).length := by rw [U_length, h.1]; kernel_rfl

theorem set_at {vs : List Value} {l : List Nat} {k x : Nat} (hl : vs.length = l.length) (hk : k < l.length) (hx : l.getD k 0 = x) (h : ∀ i, i < k → vs[i]? = some (.int .u8 (l.getD i 0 : Nat))) :
    ∀ i, i < k + 1 → (vs.set k (.int .u8 (x : Int)))[i]? = some (.int .u8 (l.getD i 0 : Nat)) := by
  subst hx
  intro i hi
  rw [List.getElem?_set]
  by_cases e : k = i
  · subst e; simp [hl, hk]
  · simp [e]; simpa using h i (by omega)

theorem arr_full {vs : List Value} {l : List Nat} (hl : vs.length = l.length) (h : ∀ i, i < l.length → vs[i]? = some (.int .u8 (l.getD i 0 : Nat))) : vs = U l := by
  apply List.ext_getElem?
  intro i
  by_cases hi : i < l.length
  · rw [h i hi, U_get l i hi]
  · rw [List.getElem?_eq_none (by omega), List.getElem?_eq_none (by rw [U_length]; omega)]

set_option maxRecDepth 100000 in
set_option maxHeartbeats 800000 in
theorem xor_any (la lb : List Nat) (w : World) (ha : Id32 la) (hb : Id32 lb) :
    Calls Try.prog 6 #[.agg (U la).toArray, .agg (U lb).toArray] w fun e w' => e = .returned (.agg (U (xorL la lb)).toArray) ∧ Below w.heap.size w w' := by
  go_enter Try.func6, Try.ntmps6
  go_upto_region 1 with (first
    | (refine wpList_box_abs rfl 27 (.tmp 0) rfl (.agg (U la).toArray) rfl ?_; intro ga w1 hga hgal hA hb1)
    | (refine wpList_box_abs rfl 27 (.tmp 1) rfl (.agg (U lb).toArray) rfl ?_; intro gb w2 hgb hgbl hB hb2)
    | (refine wpList_alloc_abs rfl 27 rfl _ Try.zero27 ?_; intro gr w3 hgr hgrl hR hb3))
  go_wp2_with (refine wpList_alloc_abs rfl 27 rfl _ Try.zero27 ?_; intro gx w4 hgx hgxl hX hb4)
  have hs1 := hb1.size
  have hs2 := hb2.size
  have hs3 := hb3.size
  have hs4 := hb4.size
  have hA2 : Arr w4 ga 27 (U la) := (((by simpa [Value.cells] using hA : Arr w1 ga 27 (U la)).below hb2 hgal).below hb3 (by omega)).below hb4 (by omega)
  have hB2 : Arr w4 gb 27 (U lb) := ((by simpa [Value.cells] using hB : Arr w2 gb 27 (U lb)).below hb3 hgbl).below hb4 (by omega)
  have hR2 : Arr w4 gr 27 (U (List.replicate 32 0)) := (by simpa [Value.cells] using hR : Arr w3 gr 27 (U (List.replicate 32 0))).below hb4 hgrl
  have hX2 : Arr w4 gx 27 (U (List.replicate 32 0)) := by simpa [Value.cells] using hX
  have hbel : Below w.heap.size w w4 := hb1.trans ((hb2.mono (by omega)).trans ((hb3.mono (by omega)).trans (hb4.mono (by omega))))
  have n1 : ga < gb := by omega
  have n2 : gb < gr := by omega
  have n3 : gr < gx := by omega
  clear hA hB hR hX hb1 hb2 hb3 hb4
  have hxi := xorL_id ha hb
  have hxl := hxi.1
  go_loopw [7] (fun i wr => ∃ (k : Nat) (vs : List Value), k ≤ 32 ∧ i = .int .i64 k ∧ vs.length = (xorL la lb).length ∧ Arr wr gx 27 vs ∧ (∀ i, i < k → vs[i]? = some (.int .u8 ((xorL la lb).getD i 0 : Nat))) ∧
      Arr wr ga 27 (U la) ∧ Arr wr gb 27 (U lb) ∧ Arr wr gr 27 (U (List.replicate 32 0)) ∧ Below w.heap.size w wr) (fun i _ => 32 - (intOf i).toNat)
  case atStart => exact ⟨0, _, Nat.zero_le _, rfl, by rw [hxl]; rfl, hX2, fun i hi => absurd hi (by omega), hA2, hB2, hR2, hbel⟩
  case round =>
    clear hA2 hB2 hR2 hX2 hbel
    obtain ⟨k, vs, hk, rfl, hvl, hX, hpre, hA, hB, hR, hbel⟩ := hrel
    by_cases hlt : k < 32
    · obtain ⟨x, hx⟩ : ∃ x, x = la.getD k 0 := ⟨_, rfl⟩
      obtain ⟨y, hy⟩ : ∃ y, y = lb.getD k 0 := ⟨_, rfl⟩
      have hx256 : x < 256 := by rw [hx]; exact ha.2 k
      have hy256 : y < 256 := by rw [hy]; exact hb.2 k
      have hca : wr.cell? ⟨ga, k, none⟩ = some (.int .u8 (x : Int)) := by rw [hA.cell, hx, U_get _ _ (by rw [ha.1]; exact hlt)]
      have hcb : wr.cell? ⟨gb, k, none⟩ = some (.int .u8 (y : Int)) := by rw [hB.cell, hy, U_get _ _ (by rw [hb.1]; exact hlt)]
      have hcx : wr.cell? ⟨gx, k, none⟩ = some (vs[k]'(by omega)) := by rw [hX.cell]; exact List.getElem?_eq_getElem (by omega)
      have hfx := hX.frozen k
      have HX : Hid (x = la.getD k 0) := hx
      have HY : Hid (y = lb.getD k 0) := hy
      clear hx hy
      go_wp2
      go_region
      go_wp2
      rw [u8_xor_nat x y hx256 hy256]
      go_roundw
      case rel =>
        have hxy : (xorL la lb).getD k 0 = x ^^^ y := by rw [xorL_getD la lb (by rw [ha.1, hb.1]), HX.out, HY.out]
        exact ⟨k + 1, vs.set k (.int .u8 ((x ^^^ y : Nat) : Int)), by omega, by go_num, by simpa using hvl, hX.set k _, set_at hvl (by omega) hxy hpre, hA.other (by omega) _, hB.other (by omega) _, hR.other (by omega) _, (hbel.setCell (by simp; omega) _).drew⟩
      case measure => simp [intOf]; omega
    · obtain rfl : vs = U (xorL la lb) := arr_full hvl (fun i hi => hpre i (by omega))
      have hz : (Try.prog.info? 27).map (·.size) = some (U (xorL la lb)).length := Try.size27 hxi
      go_wp2_with (first
        | (refine wpList_load_abs rfl 27 (.tmp 5) rfl gx rfl 27 _ hX (.array 32 5) Try.underlying27 rfl hz ?_)
        | (refine wpList_store_abs rfl 27 (.tmp 4) (.tmp 20) rfl gr rfl 27 _ _ rfl hR (by rw [U_length, U_length, hxl]; rfl) hz (U_one _) ?_; intro w5 hR5 hb5 _))
      refine bodyPost_ret (v := .agg (U (xorL la lb)).toArray) ?_ rfl ⟨rfl, hbel.trans (hb5 _ (by omega))⟩
      exact results_cell_row rfl _ _ gr 27 _ (0, 0) (.array 32 5) rfl hR5 Try.underlying27 rfl (by simpa using hz)

set_option maxRecDepth 100000 in
set_option maxHeartbeats 800000 in
theorem zzxor_any (la lb : List Nat) (w : World) (ha : Id32 la) (hb : Id32 lb) :
    Calls Try.prog 5 #[.agg (U la).toArray, .agg (U lb).toArray] w fun e w' => e = .returned (.agg (U (xorL la lb)).toArray) ∧ Below w.heap.size w w' := by
  have hxi := xorL_id ha hb
  have hxl := hxi.1
  have hza : (Try.prog.info? 22).map (·.size) = some (U la).length := Try.size22 ha
  have hzb : (Try.prog.info? 22).map (·.size) = some (U lb).length := Try.size22 hb
  have hz : (Try.prog.info? 22).map (·.size) = some (U (xorL la lb)).length := Try.size22 hxi
  go_enter Try.func5, Try.ntmps5
  go_upto_region 1 with (first
    | (refine wpList_box_abs rfl 22 (.tmp 0) rfl (.agg (U la).toArray) rfl ?_; intro ga w1 hga hgal hA hb1)
    | (refine wpList_box_abs rfl 22 (.tmp 1) rfl (.agg (U lb).toArray) rfl ?_; intro gb w2 hgb hgbl hB hb2)
    | (refine wpList_alloc_abs rfl 22 rfl _ Try.zero22 ?_; intro gr w3 hgr hgrl hR hb3))
  have hs1 := hb1.size
  have hs2 := hb2.size
  have hs3 := hb3.size
  have hA2 : Arr w3 ga 22 (U la) := (((by simpa [Value.cells] using hA : Arr w1 ga 22 (U la)).below hb2 hgal).below hb3 (by omega))
  have hB2 : Arr w3 gb 22 (U lb) := ((by simpa [Value.cells] using hB : Arr w2 gb 22 (U lb)).below hb3 hgbl)
  have hR2 : Arr w3 gr 22 (U (List.replicate 32 0)) := (by simpa [Value.cells] using hR : Arr w3 gr 22 (U (List.replicate 32 0)))
  have hbel : Below w.heap.size w w3 := hb1.trans ((hb2.mono (by omega)).trans (hb3.mono (by omega)))
  clear hA hB hR hb1 hb2 hb3
  go_wp2_with (first
    | (refine wpList_load_abs rfl 22 (.tmp 2) rfl ga rfl 22 _ hA2 (.array 32 5) Try.underlying22 rfl hza ?_)
    | (refine wpList_load_abs rfl 22 (.tmp 3) rfl gb rfl 22 _ hB2 (.array 32 5) Try.underlying22 rfl hzb ?_)
    | (go_at_call 6; refine (xor_any la lb _ ha hb).mono ?_; rintro e w4 ⟨rfl, hb4⟩; have hR4 := hR2.below hb4 hgrl)
    | (refine wpList_store_abs rfl 22 (.tmp 4) (.tmp 7) rfl gr rfl 22 _ _ rfl hR4 (by rw [U_length, U_length, hxl]; rfl) hz (U_one _) ?_; intro w5 hR5 hb5 _))
  refine bodyPost_ret (v := .agg (U (xorL la lb)).toArray) ?_ rfl ⟨rfl, (hbel.trans (hb4.mono (by omega))).trans (hb5 _ (by omega))⟩
  exact results_cell_row rfl _ _ gr 22 _ (0, 0) (.array 32 5) rfl hR5 Try.underlying22 rfl (by simpa using hz)
end Go.Proofs.Qxb6618425a
