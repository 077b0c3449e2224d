/-
  FnXorUndoesItselfAndAddsWithoutCarry: the walk.
-/
import Derived.Test.Qxb6618425aXor
import Derived.BigQuiet
import Derived.ChangeKeysEq
namespace Go.Proofs.Qxb6618425a
open Go.RowKit Mem

theorem wp_region_quiet_C {P : Program} {id : Nat} {Q : Exit → Act → World → Prop} {a : Act} {w : World} {l : List Oper} (C : World → Prop) (hm : P.follows .mixedOrders = true) (hB : Region.lexB .any l.toArray = true) (hC : C w.drew)
    (h : wpQuiet P l.toArray C (fun a' => ∀ w', C w' → Q .normal a' w') l a) : (Code.region id l.toArray true).wp P Q a w :=
  wp_region_quiet (C := C) hm hB hC (by simpa using h)

theorem Try.part5 (l : List Nat) (i : Nat) (hi : i < l.length) (w : World) : (part 5 (U l).toArray (i * 1)).run Try.prog w = .ok (.int .u8 (l.getD i 0 : Nat)) w := by
  have h := U_get l i hi
  have hagg : (isAgg 5).run Try.prog w = .ok false w := by
    unfold isAgg
    rw [Sem.run_bind, run_underlying Try.underlying5 w]
    rfl
  have h' : (U l).toArray[i]? = some (.int .u8 (l.getD i 0 : Nat)) := by simpa using h
  simp only [part, Sem.run_bind, hagg, Result.andThen_ok, Nat.mul_one, h']
  rfl

theorem Try.eqItems (l : List Nat) (w : World) : ∀ is : List Nat, (∀ i ∈ is, i < l.length) → (Op.eqItems 9999 5 1 (U l).toArray (U l).toArray is).run Try.prog w = .ok true w
  | [], _ => rfl
  | i :: is, h => by
    have hp := Try.part5 l i (h i (by simp)) w
    have ih := Try.eqItems l w is (fun j hj => h j (by simp [hj]))
    have he := run_equalIn_int (P := Try.prog) w 9998 5 .u8 .u8 (l.getD i 0 : Nat) (l.getD i 0 : Nat) Try.underlying5
    simp only [Op.eqItems, Sem.run_bind, hp, Result.andThen_ok, he]
    simpa using ih

theorem Try.info5 : ∃ i, Try.prog.info? 5 = some i := by
  have h : ((Try.prog.info? 5).map fun _ => ()) = some () := by kernel_rfl
  obtain ⟨i, hi, _⟩ := Option.map_eq_some_iff.1 h
  exact ⟨i, hi⟩
theorem Try.cells5 : Try.prog.cellsOf 5 = 1 := by kernel_rfl

theorem Try.equal22 (l : List Nat) (hl : Id32 l) (w : World) : (Op.equalIn 10000 22 (.agg (U l).toArray) (.agg (U l).toArray)).run Try.prog w = .ok true w := by
  obtain ⟨i, hi⟩ := Try.info5
  rw [run_equalIn_array w 9999 (U l).toArray (U l).toArray Try.underlying22 hi, Try.cells5]
  exact Try.eqItems l w _ (fun i hi => by rw [hl.1]; simpa using hi)

theorem Try.guard22 : Try.prog.eqGuardType Try.prog.depth 22 = false := by kernel_rfl

theorem quiet_neq22 {ops : Array Oper} {C : World → Prop} {Q : Act → Prop} {o : Oper} {rest : List Oper} {a : Act} (hgd : o.guard = none) (x y : Operand) (t : TypeId) (ho : o.op = .binOp .neq 22 x y t)
    (l : List Nat) (hl : Id32 l) (hx : a.eval x = .agg (U l).toArray) (hy : a.eval y = .agg (U l).toArray)
    (next : wpQuiet Try.prog ops C Q rest (a.put o.dst (.bool false))) : wpQuiet Try.prog ops C Q (o :: rest) a := by
  refine wpQuiet_run hgd _ (fun w hw => ?_) next
  unfold execOp
  simp only [ho, hx, hy, Sem.run_bind, run_eqGuard_agg w .neq 22 x y _ _ Try.guard22, run_neq_struct, Try.equal22 l hl, Result.andThen_ok, Sem.run_pure, Bool.not_true]

theorem xor_undo_b {la lb : List Nat} (ha : Id32 la) (hb : Id32 lb) : xorL (xorL la lb) lb = la := by
  apply List.ext_getElem?
  intro i
  simp only [xorL, List.getElem?_zipWith]
  by_cases hi : i < 32
  · rw [List.getElem?_eq_getElem (by rw [ha.1]; exact hi), List.getElem?_eq_getElem (by rw [hb.1]; exact hi)]
    simp [Nat.xor_assoc]
  · rw [List.getElem?_eq_none (by rw [ha.1]; omega)]
theorem xor_comm (la lb : List Nat) : xorL la lb = xorL lb la := by
  unfold xorL
  rw [List.zipWith_comm]
  congr 1
  funext a b
  exact Nat.xor_comm b a
theorem xor_undo_a {la lb : List Nat} (ha : Id32 la) (hb : Id32 lb) : xorL (xorL la lb) la = lb := by
  rw [xor_comm la lb]
  exact xor_undo_b hb ha

theorem xor_and_sum : ∀ x y : Nat, (x ^^^ y) + 2 * (x &&& y) = x + y := by
  intro x
  induction x using Nat.strongRecOn with
  | ind x ih =>
    intro y
    by_cases h0 : x = 0
    · subst h0; simp
    · have h := ih (x / 2) (by omega) (y / 2)
      have h1 : (x ^^^ y) / 2 = x / 2 ^^^ y / 2 := Nat.xor_div_two
      have h2 : (x &&& y) / 2 = x / 2 &&& y / 2 := Nat.and_div_two
      have h3 : (x ^^^ y) % 2 = (x % 2 + y % 2) % 2 := by
        have : (x ^^^ y) % 2 = x % 2 ^^^ y % 2 := by rw [← Nat.xor_mod_two_pow (n := 1)]
        rw [this]
        rcases Nat.mod_two_eq_zero_or_one x with e | e <;> rcases Nat.mod_two_eq_zero_or_one y with e' | e' <;> simp [e, e']
      have h4 : (x &&& y) % 2 = (x % 2) * (y % 2) := by
        have : (x &&& y) % 2 = x % 2 &&& y % 2 := by rw [← Nat.and_mod_two_pow (n := 1)]
        rw [this]
        rcases Nat.mod_two_eq_zero_or_one x with e | e <;> rcases Nat.mod_two_eq_zero_or_one y with e' | e' <;> simp [e, e']
      rcases Nat.mod_two_eq_zero_or_one x with e | e <;> rcases Nat.mod_two_eq_zero_or_one y with e' | e' <;> simp only [e, e'] at h4 <;> omega

set_option maxRecDepth 100000 in
set_option maxHeartbeats 800000 in
theorem law1 (la lb : List Nat) (w : World) (ha : Id32 la) (hb : Id32 lb) :
    Calls Try.prog 3 #[.agg (U la).toArray, .agg (U lb).toArray] w fun e w' => e = .returned (.bool true) ∧ Below w.heap.size w w' := by
  have hxi := xorL_id ha hb
  have hxl := hxi.1
  have hza : (Try.prog.info? 22).map (·.size) = some (U la).length := Try.size22 ha
  have hzb : (Try.prog.info? 22).map (·.size) = some (U lb).length := Try.size22 hb
  have hz : (Try.prog.info? 22).map (·.size) = some (U (xorL la lb)).length := Try.size22 hxi
  go_enter Try.func3, Try.ntmps3
  go_upto_region 1 with (first
    | (refine wpList_box_abs rfl 22 (.tmp 0) rfl (.agg (U la).toArray) rfl ?_; intro ga w1 hga hgal hA hb1)
    | (refine wpList_box_abs rfl 22 (.tmp 1) rfl (.agg (U lb).toArray) rfl ?_; intro gb w2 hgb hgbl hB hb2))
  have hs1 := hb1.size
  have hs2 := hb2.size
  have hA2 : Arr w2 ga 22 (U la) := ((by simpa [Value.cells] using hA : Arr w1 ga 22 (U la)).below hb2 hgal)
  have hB2 : Arr w2 gb 22 (U lb) := (by simpa [Value.cells] using hB : Arr w2 gb 22 (U lb))
  have hbel : Below w.heap.size w w2 := hb1.trans (hb2.mono (by omega))
  clear hA hB hb1 hb2
  go_upto_region 2 with (first
    | (refine wpList_load_abs rfl 22 (.tmp 2) rfl ga rfl 22 _ hA2 (.array 32 5) Try.underlying22 rfl hza ?_)
    | (refine wpList_load_abs rfl 22 (.tmp 3) rfl gb rfl 22 _ hB2 (.array 32 5) Try.underlying22 rfl hzb ?_)
    | (go_at_call 5; refine (zzxor_any la lb _ ha hb).mono ?_; rintro e w4 ⟨rfl, hb4⟩)
    | (refine wpList_alloc_abs rfl 22 rfl _ Try.zero22 ?_; intro gr w5 hgr hgrl hR hb5)
    | (refine wpList_store_abs rfl 22 (.tmp 5) (.tmp 9) rfl gr rfl 22 _ _ rfl (by simpa [Value.cells] using hR : Arr w5 gr 22 (U (List.replicate 32 0))) (by rw [U_length, U_length, hxl]; rfl) hz (U_one _) ?_; intro w6 hR6 hb6 _))
  have hs4 := hb4.size
  have hs5 := hb5.size
  have hs6 := (hb6 _ (Nat.le_refl _)).size
  have hA6 : Arr w6 ga 22 (U la) := ((hA2.below hb4 (by omega)).below hb5 (by omega)).below (hb6 gr (Nat.le_refl _)) (by omega)
  have hB6 : Arr w6 gb 22 (U lb) := ((hB2.below hb4 (by omega)).below hb5 (by omega)).below (hb6 gr (Nat.le_refl _)) (by omega)
  have hbel6 : Below w.heap.size w w6 := hbel.trans ((hb4.mono (by omega)).trans ((hb5.mono (by omega)).trans (hb6 _ (by omega))))
  clear hA2 hB2 hR hb4 hb5 hb6 hbel
  refine wp_region_quiet_C (Below w6.heap.size w6) (by kernel_rfl) (by kernel_rfl) (Below.refl _ _).drew ?_
  refine wpQuiet_load rfl 22 (.tmp 5) rfl gr rfl 22 _ (fun w' hw' => hR6.below hw' hR6.lt) (.array 32 5) Try.underlying22 rfl hz ?_
  refine wpQuiet_load rfl 22 (.tmp 3) rfl gb rfl 22 _ (fun w' hw' => hB6.below hw' hB6.lt) (.array 32 5) Try.underlying22 rfl hzb ?_
  refine wpQuiet_call rfl 5 #[.agg (U (xorL la lb)).toArray, .agg (U lb).toArray] (.agg (U la).toArray) (fun w' _ => by go_simp) (fun w' hw' => ?_) ?_
  · refine (zzxor_any (xorL la lb) lb _ hxi hb).mono ?_
    rintro e w'' ⟨rfl, hb''⟩
    exact ⟨by rw [xor_undo_b ha hb], hw'.trans (hb''.mono hw'.size)⟩
  refine wpQuiet_load rfl 22 (.tmp 2) rfl ga rfl 22 _ (fun w' hw' => hA6.below hw' hA6.lt) (.array 32 5) Try.underlying22 rfl hza ?_
  refine quiet_neq22 rfl (.tmp 12) (.tmp 13) 22 rfl la ha rfl rfl ?_
  refine wpQuiet_nil ?_
  intro w7 hw7
  simp only [Act.put, List.setIfInBounds_toArray, List.set_cons_succ, List.set_cons_zero]
  go_upto_region 4 with fail
  have hs7 := hw7.size
  have hA7 := hA6.below hw7 hA6.lt
  have hB7 := hB6.below hw7 hB6.lt
  have hR7 := hR6.below hw7 hR6.lt
  have hbel7 : Below w.heap.size w w7 := hbel6.trans (hw7.mono hbel6.size)
  clear hA6 hB6 hR6 hbel6 hw7
  refine wp_region_quiet_C (Below w7.heap.size w7) (by kernel_rfl) (by kernel_rfl) (Below.refl _ _).drew ?_
  refine wpQuiet_load rfl 22 (.tmp 5) rfl gr rfl 22 _ (fun w' hw' => hR7.below hw' hR7.lt) (.array 32 5) Try.underlying22 rfl hz ?_
  refine wpQuiet_load rfl 22 (.tmp 2) rfl ga rfl 22 _ (fun w' hw' => hA7.below hw' hA7.lt) (.array 32 5) Try.underlying22 rfl hza ?_
  refine wpQuiet_call rfl 5 #[.agg (U (xorL la lb)).toArray, .agg (U la).toArray] (.agg (U lb).toArray) (fun w' _ => by go_simp) (fun w' hw' => ?_) ?_
  · refine (zzxor_any (xorL la lb) la _ hxi ha).mono ?_
    rintro e w'' ⟨rfl, hb''⟩
    exact ⟨by rw [xor_undo_a ha hb], hw'.trans (hb''.mono hw'.size)⟩
  refine wpQuiet_load rfl 22 (.tmp 3) rfl gb rfl 22 _ (fun w' hw' => hB7.below hw' hB7.lt) (.array 32 5) Try.underlying22 rfl hzb ?_
  refine quiet_neq22 rfl (.tmp 17) (.tmp 18) 22 rfl lb hb rfl rfl ?_
  refine wpQuiet_nil ?_
  intro w8 hw8
  simp only [Act.put, List.setIfInBounds_toArray, List.set_cons_succ, List.set_cons_zero]
  have hA8 := hA7.below hw8 hA7.lt
  have hB8 := hB7.below hw8 hB7.lt
  have hR8 := hR7.below hw8 hR7.lt
  have hbel8 : Below w.heap.size w w8 := hbel7.trans (hw8.mono hbel7.size)
  clear hA7 hB7 hR7 hbel7 hw8 hza hzb hz
  go_wp2
  go_loopw [6] (fun i wr => ∃ (k : Nat), k ≤ 32 ∧ i = .int .i64 k ∧ Hid (∃ n, wr = w8.drewN n)) (fun i _ => 32 - (intOf i).toNat)
  case atStart => exact ⟨0, Nat.zero_le _, rfl, 0, rfl⟩
  case round =>
    obtain ⟨k, hk, rfl, hn⟩ := hrel
    have hA9 : Arr wr ga 22 (U la) := by obtain ⟨n, rfl⟩ := hn.out; exact hA8
    have hB9 : Arr wr gb 22 (U lb) := by obtain ⟨n, rfl⟩ := hn.out; exact hB8
    have hR9 : Arr wr gr 22 (U (xorL la lb)) := by obtain ⟨n, rfl⟩ := hn.out; exact hR8
    by_cases hlt : k < 32
    · obtain ⟨x, hx⟩ : ∃ x, x = la.getD k 0 := ⟨_, rfl⟩
      obtain ⟨y, hy⟩ : ∃ y, y = lb.getD k 0 := ⟨_, rfl⟩
      have hx256 : x < 256 := by rw [hx]; exact ha.2 k
      have hy256 : y < 256 := by rw [hy]; exact hb.2 k
      have hca : wr.cell? ⟨ga, k, none⟩ = some (.int .u8 (x : Int)) := by rw [hA9.cell, hx, U_get _ _ (by rw [ha.1]; exact hlt)]
      have hcb : wr.cell? ⟨gb, k, none⟩ = some (.int .u8 (y : Int)) := by rw [hB9.cell, hy, U_get _ _ (by rw [hb.1]; exact hlt)]
      obtain ⟨r, hr⟩ : ∃ r, r = x ^^^ y := ⟨_, rfl⟩
      obtain ⟨s, hs⟩ : ∃ s, s = x &&& y := ⟨_, rfl⟩
      have hcr : wr.cell? ⟨gr, k, none⟩ = some (.int .u8 (r : Int)) := by rw [hR9.cell, U_get _ _ (by rw [hxl]; exact hlt), xorL_getD la lb (by rw [ha.1, hb.1]), hr, hx, hy]
      have hr256 : r < 256 := by rw [hr]; exact Nat.xor_lt_two_pow (n := 8) hx256 hy256
      have hs256 : s < 256 := by rw [hs]; exact Nat.lt_of_le_of_lt Nat.and_le_left hx256
      have hand : bits .and .u8 (x : Int) (y : Int) = (s : Int) := by rw [hs]; exact u8_and_nat x y hx256 hy256
      have hsum : r + 2 * s = x + y := by rw [hr, hs]; exact xor_and_sum x y
      have HS : Hid (r + 2 * s = x + y) := hsum
      have hne : ((r : Int) + 2 * (s : Int) != (x : Int) + (y : Int)) = false := by simp; omega
      clear hx hy hr hs hsum hA9 hB9 hR9
      go_wp2
      go_quiet (fail)
      go_wp2
      go_roundw
      case rel => exact ⟨k + 1, by omega, by go_num, by obtain ⟨n, rfl⟩ := hn.out; exact ⟨n + nq, World.drewN_drewN _ _ _⟩⟩
      case measure => simp [intOf]; omega
    · go_wp2
      go_ret
      exact ⟨rfl, by obtain ⟨n, rfl⟩ := hn.out; exact below_drewN hbel8 n⟩
end Go.Proofs.Qxb6618425a
