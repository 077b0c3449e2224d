/-
  FnXorOfThreeIsBitParity: the walk. Two of its statements draw their order: two calls of ZZxor and a new variable into which the result goes.
-/
import Derived.Test.Qxb6618425aLaw1
import Derived.Deep.RegionHeld
namespace Go.Proofs.Qxb6618425a
open Go.RowKit Mem

/-! One operation of a region that draws its order. -/
section
variable {P : Program} {ops : Array Oper} {v : Value}
theorem step_call {o : Oper} {a : Act} {w : World} {K : Act → World → Prop} {Q : Exit → Act → World → Prop} {E : Prop} (hgd : o.guard = none) (d : Option Tmp) (hd : o.dst = d) (f : FuncId) (args : Array Value)
    (h : (execOp a.eval o).run P w = .ok (.enter f args) w) (v : Value) (R : World → Prop) (hc : Calls P f args w fun e w' => e = .returned v ∧ R w') (hK : ∀ w', R w' → K (a.put d v) w') :
    if Region.wanted o (yielded ops a.tmps) = true then Oper.wp P o a w K Q else E := by
  have hw : Region.wanted o (yielded ops a.tmps) = true := by simp [Region.wanted, hgd]
  subst hd
  rw [if_pos hw]
  unfold Oper.wp
  rw [h]
  exact hc.mono fun e w' ⟨he, hR⟩ => by subst he; exact hK w' hR

theorem step_alloc {o : Oper} {a : Act} {w : World} {K : Act → World → Prop} {Q : Exit → Act → World → Prop} {E : Prop} (hgd : o.guard = none) (d : Option Tmp) (hd : o.dst = d) (t : TypeId) (ho : o.op = .alloc t)
    (z : Value) (hz : (P.info? t).map (fun i => i.zero) = some (some z))
    (hK : ∀ g w', w.heap.size ≤ g → g < w'.heap.size → Arr w' g t z.cells.toList → Below w.heap.size w w' → K (a.put d (.pointer (some ⟨g, 0, none⟩))) w') :
    if Region.wanted o (yielded ops a.tmps) = true then Oper.wp P o a w K Q else E := by
  have hw : Region.wanted o (yielded ops a.tmps) = true := by simp [Region.wanted, hgd]
  subst hd
  rw [if_pos hw]
  have hk := hK w.heap.size (w.alloc (.cells z.cells t)) (Nat.le_refl _) (by simp) (by have := Arr.new w t z.cells.toList; simpa using this) ((Below.refl _ _).alloc (Nat.le_refl _) _)
  obtain ⟨i, hi, hzz⟩ := Option.map_eq_some_iff.1 hz
  unfold Oper.wp
  simp [execOp, ho, Instr.alloc, zeroValue, typeInfo, hi, hzz, newVar, newRow, Result.andThen]
  exact hk

theorem step_store {o : Oper} {a : Act} {w : World} {K : Act → World → Prop} {Q : Exit → Act → World → Prop} {E : Prop} (hgd : o.guard = none) (hd : o.dst = none) (ty : TypeId) (p x : Operand) (ho : o.op = .store ty p x)
    (g : Nat) (hp : a.eval p = .pointer (some ⟨g, 0, none⟩)) (t : TypeId) (old cs : List Value) (hx : a.eval x = .agg cs.toArray) (hg : Arr w g t old) (hl : old.length = cs.length)
    (hi : (P.info? ty).map (·.size) = some cs.length) (h1 : ∀ v ∈ cs, v.oneCell' = true)
    (hK : ∀ w', Arr w' g t cs → (∀ B, B ≤ g → Below B w w') → K a w') :
    if Region.wanted o (yielded ops a.tmps) = true then Oper.wp P o a w K Q else E := by
  have hw : Region.wanted o (yielded ops a.tmps) = true := by simp [Region.wanted, hgd]
  have he : ∀ v, a.put o.dst v = a := fun v => by rw [hd]; rfl
  rw [if_pos hw]
  have hr := run_storeVar_abs (P := P) w g ty t old cs hg hl hi h1
  have hk := hK (w.setRow g cs.toArray) (setRow_heap w g _ _ t _ hg) (fun B hB => below_setRow (Below.refl _ _) hB _)
  unfold Oper.wp
  simp [execOp, ho, hp, hx, Instr.storeAt, Instr.sureAddr, hr, Result.andThen]
  rw [Oper.upon_skip, he]
  exact hk

theorem take_load {md : Region.Mode} {Q : Exit → Act → World → Prop} {S : World → Prop} (i : Nat) {oi : Oper} {fuel : Nat} {listed : Array Bool} {a : Act} {w : World} (d : Option Tmp) (hi : ops[i]? = some oi) (hd : oi.dst = d)
    (hs : Region.noSelect ops = true) (hf : Region.free md ops listed i = true) (hr : (Region.ready md ops listed).contains i = true)
    (hQ : ∀ c a w, Q (.panic c) (a.put d v) w → Q (.panic c) a w) (hy : YieldsIf P ops S oi v a) (hS : S w)
    (h : wpAnyH P md ops Q S fuel (listed.setIfInBounds i true) (a.put d v) w) : wpAnyH P md ops Q S (fuel + 1) listed a w := by
  subst hd; exact wpAnyH_take hi hs hf hr hQ hy hS h

theorem yields_load {C : World → Prop} {o : Oper} {a : Act} (hgd : o.guard = none) (ty : TypeId) (x : Operand) (ho : o.op = .load ty x)
    (g : Nat) (hx : a.eval x = .pointer (some ⟨g, 0, none⟩)) (t : TypeId) (cs : List Value) (hg : ∀ w, C w → Arr w g t cs) (d : TypeDesc)
    (hu : P.underlying ty = some d) (hd : (match d with | .struct _ | .array _ _ => true | _ => false) = true) (hi : (P.info? ty).map (·.size) = some cs.length) : YieldsIf P ops C o (.agg cs.toArray) a :=
  .inl ⟨by simp [Region.wanted, hgd], fun w hw => by
    unfold execOp
    simp only [ho, hx, Instr.loadAt, Instr.sureAddr, Sem.run_bind, Sem.run_pure, Result.andThen_ok, run_loadVar_row w g t ty cs.toArray (0, 0) d (hg w hw) hu hd (by simpa using hi)]⟩
end

theorem xor_assoc (la lb lc : List Nat) : xorL (xorL la lb) lc = xorL la (xorL lb lc) := by
  apply List.ext_getElem?
  intro i
  simp only [xorL, List.getElem?_zipWith]
  cases la[i]? <;> cases lb[i]? <;> cases lc[i]? <;> simp [Nat.xor_assoc]

theorem bit_u8 (x k : Nat) (hx : x < 256) : bits .and .u8 ((x : Int) / 2 ^ k) 1 = ((x / 2 ^ k % 2 : Nat) : Int) := by
  have e : ((x : Int) / 2 ^ k) = ((x / 2 ^ k : Nat) : Int) := by
    rw [Int.natCast_ediv]; congr 1
  rw [e]
  have h1 : ((1 : Int)) = ((1 : Nat) : Int) := rfl
  rw [h1, u8_and_nat (x / 2 ^ k) 1 (Nat.lt_of_le_of_lt (Nat.div_le_self _ _) hx) (by omega), nat_mask1]

theorem xor_mod2 (a b : Nat) : (a ^^^ b) % 2 = (a % 2 + b % 2) % 2 := by
  have : (a ^^^ b) % 2 = a % 2 ^^^ b % 2 := by rw [← Nat.xor_mod_two_pow (n := 1)]
  rw [this]
  rcases Nat.mod_two_eq_zero_or_one a with e | e <;> rcases Nat.mod_two_eq_zero_or_one b with e' | e' <;> simp [e, e']

theorem bit_xor3 (x y z k : Nat) : (x / 2 ^ k % 2 = 0 ∨ x / 2 ^ k % 2 = 1) ∧ (y / 2 ^ k % 2 = 0 ∨ y / 2 ^ k % 2 = 1) ∧ (z / 2 ^ k % 2 = 0 ∨ z / 2 ^ k % 2 = 1) ∧
    (x ^^^ y ^^^ z) / 2 ^ k % 2 = (x / 2 ^ k % 2 + y / 2 ^ k % 2 + z / 2 ^ k % 2) % 2 := by
  refine ⟨Nat.mod_two_eq_zero_or_one _, Nat.mod_two_eq_zero_or_one _, Nat.mod_two_eq_zero_or_one _, ?_⟩
  rw [Nat.xor_div_two_pow, Nat.xor_div_two_pow, xor_mod2, xor_mod2]
  omega

theorem list_neq22 {ops : Array Oper} {Q : Exit → Act → World → Prop} {o : Oper} {rest : List Oper} {a : Act} {w : World} (hgd : o.guard = none) (x y : Operand) (t : TypeId) (ho : o.op = .binOp .neq 22 x y t)
    (l : List Nat) (hl : Id32 l) (hx : a.eval x = .agg (U l).toArray) (hy : a.eval y = .agg (U l).toArray)
    (next : wpList Try.prog ops Q rest (a.put o.dst (.bool false)) w) : wpList Try.prog ops Q (o :: rest) a w := by
  refine wpList_plain hgd fun K hK => ?_
  unfold Oper.wp execOp
  simp only [ho, hx, hy, Sem.run_bind, run_eqGuard_agg w .neq 22 x y _ _ Try.guard22, run_neq_struct, Try.equal22 l hl, Result.andThen_ok, Sem.run_pure, Bool.not_true]
  exact hK _ _ next

set_option maxRecDepth 100000 in
set_option maxHeartbeats 2000000 in
theorem law2 (la lb lc : List Nat) (w : World) (ha : Id32 la) (hb : Id32 lb) (hc : Id32 lc) :
    Calls Try.prog 4 #[.agg (U la).toArray, .agg (U lb).toArray, .agg (U lc).toArray] w fun e w' => e = .returned (.bool true) ∧ Below w.heap.size w w' := by
  have hab := xorL_id ha hb
  have hbc := xorL_id hb hc
  have hL := xorL_id hab hc
  have hza : (Try.prog.info? 22).map (·.size) = some (U la).length := Try.size22 ha
  have hzb : (Try.prog.info? 22).map (·.size) = some (U lb).length := Try.size22 hb
  have hzc : (Try.prog.info? 22).map (·.size) = some (U lc).length := Try.size22 hc
  have hzL : (Try.prog.info? 22).map (·.size) = some (U (xorL (xorL la lb) lc)).length := Try.size22 hL
  go_enter Try.func4, Try.ntmps4
  go_upto_region 1 with (first
    | (refine wpList_box_abs rfl 22 (.tmp 0) rfl (.agg (U la).toArray) rfl ?_; intro ga w1 hga hgal hA hb1)
    | (refine wpList_box_abs rfl 22 (.tmp 1) rfl (.agg (U lb).toArray) rfl ?_; intro gb w2 hgb hgbl hB hb2)
    | (refine wpList_box_abs rfl 22 (.tmp 2) rfl (.agg (U lc).toArray) rfl ?_; intro gc w3 hgc hgcl hC hb3))
  have hs1 := hb1.size
  have hs2 := hb2.size
  have hs3 := hb3.size
  have hA3 : Arr w3 ga 22 (U la) := ((by simpa [Value.cells] using hA : Arr w1 ga 22 (U la)).below hb2 hgal).below hb3 (by omega)
  have hB3 : Arr w3 gb 22 (U lb) := (by simpa [Value.cells] using hB : Arr w2 gb 22 (U lb)).below hb3 hgbl
  have hC3 : Arr w3 gc 22 (U lc) := (by simpa [Value.cells] using hC : Arr w3 gc 22 (U lc))
  have hbel : Below w.heap.size w w3 := hb1.trans ((hb2.mono (by omega)).trans (hb3.mono (by omega)))
  clear hA hB hC hb1 hb2 hb3 hs1 hs2 hs3
  go_cut [7] (fun s7 wx => ∃ g, s7 = .pointer (some ⟨g, 0, none⟩) ∧ w3.heap.size ≤ g ∧ Arr wx g 22 (U (xorL (xorL la lb) lc)) ∧ Below w3.heap.size w3 wx)
  case first =>
    refine wp_region_held_drew (S := Below w3.heap.size w3) (by kernel_rfl) (Below.refl _ _).drew (fun hS0 => ?_)
    refine take_load (v := .agg (U la).toArray) 0 (some 13) rfl rfl (by kernel_rfl) (by kernel_rfl) (by kernel_rfl) (fun _ _ _ h => h) (yields_load rfl 22 (.tmp 3) rfl ga rfl 22 _ (fun w' hw' => hA3.below hw' hA3.lt) (.array 32 5) Try.underlying22 rfl hza) hS0 ?_
    refine take_load (v := .agg (U lb).toArray) 1 (some 14) rfl rfl (by kernel_rfl) (by kernel_rfl) (by kernel_rfl) (fun _ _ _ h => h) (yields_load rfl 22 (.tmp 4) rfl gb rfl 22 _ (fun w' hw' => hB3.below hw' hB3.lt) (.array 32 5) Try.underlying22 rfl hzb) hS0 ?_
    refine take_load (v := .agg (U lc).toArray) 3 (some 16) rfl rfl (by kernel_rfl) (by kernel_rfl) (by kernel_rfl) (fun _ _ _ h => h) (yields_load rfl 22 (.tmp 5) rfl gc rfl 22 _ (fun w' hw' => hC3.below hw' hC3.lt) (.array 32 5) Try.underlying22 rfl hzc) hS0 ?_
    try simp only [Act.put, List.setIfInBounds_toArray, List.set_cons_succ, List.set_cons_zero]
    refine wpAnyH_ready (rs := [2, 5]) (by kernel_rfl) (by simp) ?_
    refine AllReadyH.cons rfl (fun K hK => ?_) (AllReadyH.cons rfl (fun K hK => ?_) AllReadyH.nil)
    · refine step_call rfl (some 15) rfl 5 #[.agg (U la).toArray, .agg (U lb).toArray] (by go_simp) (.agg (U (xorL la lb)).toArray) _ (zzxor_any la lb _ ha hb) (fun wA hXA => hK.out _ _ (hS0.trans (hXA.mono hS0.size)) (fun hSA => ?_))
      try simp only [Act.put, List.setIfInBounds_toArray, List.set_cons_succ, List.set_cons_zero]
      refine wpAnyH_ready (rs := [4, 5]) (by kernel_rfl) (by simp) ?_
      refine AllReadyH.cons rfl (fun K hK => ?_) (AllReadyH.cons rfl (fun K hK => ?_) AllReadyH.nil)
      · refine step_call rfl (some 17) rfl 5 #[.agg (U (xorL la lb)).toArray, .agg (U lc).toArray] (by go_simp) (.agg (U (xorL (xorL la lb) lc)).toArray) _ (zzxor_any (xorL la lb) lc _ hab hc) (fun wB hXB => hK.out _ _ (hSA.trans (hXB.mono hSA.size)) (fun hSB => ?_))
        try simp only [Act.put, List.setIfInBounds_toArray, List.set_cons_succ, List.set_cons_zero]
        refine wpAnyH_ready (rs := [5]) (by kernel_rfl) (by simp) ?_
        refine AllReadyH.cons rfl (fun K hK => ?_) AllReadyH.nil
        refine step_alloc rfl (some 7) rfl 22 rfl _ Try.zero22 (fun g wC hg hgl hArr hXC => hK.out _ _ (hSB.trans (hXC.mono hSB.size)) (fun hSC => ?_))
        have hArr' : Arr wC g 22 (U (List.replicate 32 0)) := by simpa [Value.cells] using hArr
        have hgB : w3.heap.size ≤ g := Nat.le_trans hSB.size hg
        try simp only [Act.put, List.setIfInBounds_toArray, List.set_cons_succ, List.set_cons_zero]
        refine wpAnyH_ready (rs := [6]) (by kernel_rfl) (by simp) ?_
        refine AllReadyH.cons rfl (fun K hK => ?_) AllReadyH.nil
        refine step_store rfl rfl 22 (.tmp 7) (.tmp 17) rfl g rfl 22 _ (U (xorL (xorL la lb) lc)) rfl hArr' (by rw [U_length, U_length, hL.1]; rfl) hzL (U_one _) (fun wS hArrS hbS => hK.out _ _ (hSC.trans (hbS _ hgB)) (fun hSS => ?_))
        try simp only [Act.put, List.setIfInBounds_toArray, List.set_cons_succ, List.set_cons_zero]
        refine wpAnyH_done (by kernel_rfl) ?_ _
        go_wp2_with fail
        go_meet
        case rel => exact ⟨g, rfl, hgB, hArrS, hSS⟩
      · refine step_alloc rfl (some 7) rfl 22 rfl _ Try.zero22 (fun g wC hg hgl hArr hXC => hK.out _ _ (hSA.trans (hXC.mono hSA.size)) (fun hSC => ?_))
        have hArr' : Arr wC g 22 (U (List.replicate 32 0)) := by simpa [Value.cells] using hArr
        have hgB : w3.heap.size ≤ g := Nat.le_trans hSA.size hg
        try simp only [Act.put, List.setIfInBounds_toArray, List.set_cons_succ, List.set_cons_zero]
        refine wpAnyH_ready (rs := [4]) (by kernel_rfl) (by simp) ?_
        refine AllReadyH.cons rfl (fun K hK => ?_) AllReadyH.nil
        refine step_call rfl (some 17) rfl 5 #[.agg (U (xorL la lb)).toArray, .agg (U lc).toArray] (by go_simp) (.agg (U (xorL (xorL la lb) lc)).toArray) _ (zzxor_any (xorL la lb) lc _ hab hc) (fun wB hXB => hK.out _ _ (hSC.trans (hXB.mono hSC.size)) (fun hSB => ?_))
        have hArr2 := hArr'.below hXB hgl
        try simp only [Act.put, List.setIfInBounds_toArray, List.set_cons_succ, List.set_cons_zero]
        refine wpAnyH_ready (rs := [6]) (by kernel_rfl) (by simp) ?_
        refine AllReadyH.cons rfl (fun K hK => ?_) AllReadyH.nil
        refine step_store rfl rfl 22 (.tmp 7) (.tmp 17) rfl g rfl 22 _ (U (xorL (xorL la lb) lc)) rfl hArr2 (by rw [U_length, U_length, hL.1]; rfl) hzL (U_one _) (fun wS hArrS hbS => hK.out _ _ (hSB.trans (hbS _ hgB)) (fun hSS => ?_))
        try simp only [Act.put, List.setIfInBounds_toArray, List.set_cons_succ, List.set_cons_zero]
        refine wpAnyH_done (by kernel_rfl) ?_ _
        go_wp2_with fail
        go_meet
        case rel => exact ⟨g, rfl, hgB, hArrS, hSS⟩
    · refine step_alloc rfl (some 7) rfl 22 rfl _ Try.zero22 (fun g wC hg hgl hArr hXC => hK.out _ _ (hS0.trans (hXC.mono hS0.size)) (fun hSC => ?_))
      have hArr' : Arr wC g 22 (U (List.replicate 32 0)) := by simpa [Value.cells] using hArr
      have hgB : w3.heap.size ≤ g := hg
      try simp only [Act.put, List.setIfInBounds_toArray, List.set_cons_succ, List.set_cons_zero]
      refine wpAnyH_ready (rs := [2]) (by kernel_rfl) (by simp) ?_
      refine AllReadyH.cons rfl (fun K hK => ?_) AllReadyH.nil
      refine step_call rfl (some 15) rfl 5 #[.agg (U la).toArray, .agg (U lb).toArray] (by go_simp) (.agg (U (xorL la lb)).toArray) _ (zzxor_any la lb _ ha hb) (fun wA hXA => hK.out _ _ (hSC.trans (hXA.mono hSC.size)) (fun hSA => ?_))
      have hArr2 := hArr'.below hXA hgl
      have hgl2 := hArr2.lt
      try simp only [Act.put, List.setIfInBounds_toArray, List.set_cons_succ, List.set_cons_zero]
      refine wpAnyH_ready (rs := [4]) (by kernel_rfl) (by simp) ?_
      refine AllReadyH.cons rfl (fun K hK => ?_) AllReadyH.nil
      refine step_call rfl (some 17) rfl 5 #[.agg (U (xorL la lb)).toArray, .agg (U lc).toArray] (by go_simp) (.agg (U (xorL (xorL la lb) lc)).toArray) _ (zzxor_any (xorL la lb) lc _ hab hc) (fun wB hXB => hK.out _ _ (hSA.trans (hXB.mono hSA.size)) (fun hSB => ?_))
      have hArr3 := hArr2.below hXB hgl2
      try simp only [Act.put, List.setIfInBounds_toArray, List.set_cons_succ, List.set_cons_zero]
      refine wpAnyH_ready (rs := [6]) (by kernel_rfl) (by simp) ?_
      refine AllReadyH.cons rfl (fun K hK => ?_) AllReadyH.nil
      refine step_store rfl rfl 22 (.tmp 7) (.tmp 17) rfl g rfl 22 _ (U (xorL (xorL la lb) lc)) rfl hArr3 (by rw [U_length, U_length, hL.1]; rfl) hzL (U_one _) (fun wS hArrS hbS => hK.out _ _ (hSB.trans (hbS _ hgB)) (fun hSS => ?_))
      try simp only [Act.put, List.setIfInBounds_toArray, List.set_cons_succ, List.set_cons_zero]
      refine wpAnyH_done (by kernel_rfl) ?_ _
      go_wp2_with fail
      go_meet
      case rel => exact ⟨g, rfl, hgB, hArrS, hSS⟩
  case rest =>
    obtain ⟨g7, rfl, hg7, hL4, hb4⟩ := hcut
    obtain ⟨w4, rfl⟩ : ∃ w4, w4 = wc := ⟨_, rfl⟩
    have hA4 := hA3.below hb4 hA3.lt
    have hB4 := hB3.below hb4 hB3.lt
    have hC4 := hC3.below hb4 hC3.lt
    have hbel4 : Below w.heap.size w w4 := hbel.trans (hb4.mono hbel.size)
    clear hA3 hB3 hC3 hb4 hbel
    have hR := xorL_id ha hbc
    have hzR : (Try.prog.info? 22).map (·.size) = some (U (xorL la (xorL lb lc))).length := Try.size22 hR
    go_upto_region 2 with fail
    go_cut [8] (fun s8 wx => ∃ g, s8 = .pointer (some ⟨g, 0, none⟩) ∧ w4.heap.size ≤ g ∧ Arr wx g 22 (U (xorL (xorL la lb) lc)) ∧ Below w4.heap.size w4 wx)
    case first =>
      refine wp_region_held_drew (S := Below w4.heap.size w4) (by kernel_rfl) (Below.refl _ _).drew (fun hS0 => ?_)
      refine take_load (v := .agg (U la).toArray) 0 (some 18) rfl rfl (by kernel_rfl) (by kernel_rfl) (by kernel_rfl) (fun _ _ _ h => h) (yields_load rfl 22 (.tmp 3) rfl ga rfl 22 _ (fun w' hw' => hA4.below hw' hA4.lt) (.array 32 5) Try.underlying22 rfl hza) hS0 ?_
      refine take_load (v := .agg (U lb).toArray) 1 (some 19) rfl rfl (by kernel_rfl) (by kernel_rfl) (by kernel_rfl) (fun _ _ _ h => h) (yields_load rfl 22 (.tmp 4) rfl gb rfl 22 _ (fun w' hw' => hB4.below hw' hB4.lt) (.array 32 5) Try.underlying22 rfl hzb) hS0 ?_
      refine take_load (v := .agg (U lc).toArray) 2 (some 20) rfl rfl (by kernel_rfl) (by kernel_rfl) (by kernel_rfl) (fun _ _ _ h => h) (yields_load rfl 22 (.tmp 5) rfl gc rfl 22 _ (fun w' hw' => hC4.below hw' hC4.lt) (.array 32 5) Try.underlying22 rfl hzc) hS0 ?_
      try simp only [Act.put, List.setIfInBounds_toArray, List.set_cons_succ, List.set_cons_zero]
      refine wpAnyH_ready (rs := [3, 5]) (by kernel_rfl) (by simp) ?_
      refine AllReadyH.cons rfl (fun K hK => ?_) (AllReadyH.cons rfl (fun K hK => ?_) AllReadyH.nil)
      · refine step_call rfl (some 21) rfl 5 #[.agg (U lb).toArray, .agg (U lc).toArray] (by go_simp) (.agg (U (xorL lb lc)).toArray) _ (zzxor_any lb lc _ hb hc) (fun wA hXA => hK.out _ _ (hS0.trans (hXA.mono hS0.size)) (fun hSA => ?_))
        try simp only [Act.put, List.setIfInBounds_toArray, List.set_cons_succ, List.set_cons_zero]
        refine wpAnyH_ready (rs := [4, 5]) (by kernel_rfl) (by simp) ?_
        refine AllReadyH.cons rfl (fun K hK => ?_) (AllReadyH.cons rfl (fun K hK => ?_) AllReadyH.nil)
        · refine step_call rfl (some 22) rfl 5 #[.agg (U la).toArray, .agg (U (xorL lb lc)).toArray] (by go_simp) (.agg (U (xorL la (xorL lb lc))).toArray) _ (zzxor_any la (xorL lb lc) _ ha hbc) (fun wB hXB => hK.out _ _ (hSA.trans (hXB.mono hSA.size)) (fun hSB => ?_))
          try simp only [Act.put, List.setIfInBounds_toArray, List.set_cons_succ, List.set_cons_zero]
          refine wpAnyH_ready (rs := [5]) (by kernel_rfl) (by simp) ?_
          refine AllReadyH.cons rfl (fun K hK => ?_) AllReadyH.nil
          refine step_alloc rfl (some 8) rfl 22 rfl _ Try.zero22 (fun g wC hg hgl hArr hXC => hK.out _ _ (hSB.trans (hXC.mono hSB.size)) (fun hSC => ?_))
          have hArr' : Arr wC g 22 (U (List.replicate 32 0)) := by simpa [Value.cells] using hArr
          have hgB : w4.heap.size ≤ g := Nat.le_trans hSB.size hg
          try simp only [Act.put, List.setIfInBounds_toArray, List.set_cons_succ, List.set_cons_zero]
          refine wpAnyH_ready (rs := [6]) (by kernel_rfl) (by simp) ?_
          refine AllReadyH.cons rfl (fun K hK => ?_) AllReadyH.nil
          refine step_store rfl rfl 22 (.tmp 8) (.tmp 22) rfl g rfl 22 _ (U (xorL la (xorL lb lc))) rfl hArr' (by rw [U_length, U_length, hR.1]; rfl) hzR (U_one _) (fun wS hArrS hbS => hK.out _ _ (hSC.trans (hbS _ hgB)) (fun hSS => ?_))
          try simp only [Act.put, List.setIfInBounds_toArray, List.set_cons_succ, List.set_cons_zero]
          refine wpAnyH_done (by kernel_rfl) ?_ _
          go_wp2_with fail
          go_meet
          case rel => exact ⟨g, rfl, hgB, by rw [xor_assoc]; exact hArrS, hSS⟩
        · refine step_alloc rfl (some 8) rfl 22 rfl _ Try.zero22 (fun g wC hg hgl hArr hXC => hK.out _ _ (hSA.trans (hXC.mono hSA.size)) (fun hSC => ?_))
          have hArr' : Arr wC g 22 (U (List.replicate 32 0)) := by simpa [Value.cells] using hArr
          have hgB : w4.heap.size ≤ g := Nat.le_trans hSA.size hg
          try simp only [Act.put, List.setIfInBounds_toArray, List.set_cons_succ, List.set_cons_zero]
          refine wpAnyH_ready (rs := [4]) (by kernel_rfl) (by simp) ?_
          refine AllReadyH.cons rfl (fun K hK => ?_) AllReadyH.nil
          refine step_call rfl (some 22) rfl 5 #[.agg (U la).toArray, .agg (U (xorL lb lc)).toArray] (by go_simp) (.agg (U (xorL la (xorL lb lc))).toArray) _ (zzxor_any la (xorL lb lc) _ ha hbc) (fun wB hXB => hK.out _ _ (hSC.trans (hXB.mono hSC.size)) (fun hSB => ?_))
          have hArr2 := hArr'.below hXB hgl
          try simp only [Act.put, List.setIfInBounds_toArray, List.set_cons_succ, List.set_cons_zero]
          refine wpAnyH_ready (rs := [6]) (by kernel_rfl) (by simp) ?_
          refine AllReadyH.cons rfl (fun K hK => ?_) AllReadyH.nil
          refine step_store rfl rfl 22 (.tmp 8) (.tmp 22) rfl g rfl 22 _ (U (xorL la (xorL lb lc))) rfl hArr2 (by rw [U_length, U_length, hR.1]; rfl) hzR (U_one _) (fun wS hArrS hbS => hK.out _ _ (hSB.trans (hbS _ hgB)) (fun hSS => ?_))
          try simp only [Act.put, List.setIfInBounds_toArray, List.set_cons_succ, List.set_cons_zero]
          refine wpAnyH_done (by kernel_rfl) ?_ _
          go_wp2_with fail
          go_meet
          case rel => exact ⟨g, rfl, hgB, by rw [xor_assoc]; exact hArrS, hSS⟩
      · refine step_alloc rfl (some 8) rfl 22 rfl _ Try.zero22 (fun g wC hg hgl hArr hXC => hK.out _ _ (hS0.trans (hXC.mono hS0.size)) (fun hSC => ?_))
        have hArr' : Arr wC g 22 (U (List.replicate 32 0)) := by simpa [Value.cells] using hArr
        have hgB : w4.heap.size ≤ g := hg
        try simp only [Act.put, List.setIfInBounds_toArray, List.set_cons_succ, List.set_cons_zero]
        refine wpAnyH_ready (rs := [3]) (by kernel_rfl) (by simp) ?_
        refine AllReadyH.cons rfl (fun K hK => ?_) AllReadyH.nil
        refine step_call rfl (some 21) rfl 5 #[.agg (U lb).toArray, .agg (U lc).toArray] (by go_simp) (.agg (U (xorL lb lc)).toArray) _ (zzxor_any lb lc _ hb hc) (fun wA hXA => hK.out _ _ (hSC.trans (hXA.mono hSC.size)) (fun hSA => ?_))
        have hArr2 := hArr'.below hXA hgl
        have hgl2 := hArr2.lt
        try simp only [Act.put, List.setIfInBounds_toArray, List.set_cons_succ, List.set_cons_zero]
        refine wpAnyH_ready (rs := [4]) (by kernel_rfl) (by simp) ?_
        refine AllReadyH.cons rfl (fun K hK => ?_) AllReadyH.nil
        refine step_call rfl (some 22) rfl 5 #[.agg (U la).toArray, .agg (U (xorL lb lc)).toArray] (by go_simp) (.agg (U (xorL la (xorL lb lc))).toArray) _ (zzxor_any la (xorL lb lc) _ ha hbc) (fun wB hXB => hK.out _ _ (hSA.trans (hXB.mono hSA.size)) (fun hSB => ?_))
        have hArr3 := hArr2.below hXB hgl2
        try simp only [Act.put, List.setIfInBounds_toArray, List.set_cons_succ, List.set_cons_zero]
        refine wpAnyH_ready (rs := [6]) (by kernel_rfl) (by simp) ?_
        refine AllReadyH.cons rfl (fun K hK => ?_) AllReadyH.nil
        refine step_store rfl rfl 22 (.tmp 8) (.tmp 22) rfl g rfl 22 _ (U (xorL la (xorL lb lc))) rfl hArr3 (by rw [U_length, U_length, hR.1]; rfl) hzR (U_one _) (fun wS hArrS hbS => hK.out _ _ (hSB.trans (hbS _ hgB)) (fun hSS => ?_))
        try simp only [Act.put, List.setIfInBounds_toArray, List.set_cons_succ, List.set_cons_zero]
        refine wpAnyH_done (by kernel_rfl) ?_ _
        go_wp2_with fail
        go_meet
        case rel => exact ⟨g, rfl, hgB, by rw [xor_assoc]; exact hArrS, hSS⟩
    case rest =>
      obtain ⟨g8, rfl, hg8, hR5, hb5⟩ := hcut
      obtain ⟨w5, rfl⟩ : ∃ w5, w5 = wc := ⟨_, rfl⟩
      have hA5 := hA4.below hb5 hA4.lt
      have hB5 := hB4.below hb5 hB4.lt
      have hC5 := hC4.below hb5 hC4.lt
      have hL5 := hL4.below hb5 hL4.lt
      have hbel5 : Below w.heap.size w w5 := hbel4.trans (hb5.mono hbel4.size)
      clear hA4 hB4 hC4 hL4 hb5 hbel4 hza hzb hzc hzR
      go_wp2_with (first
        | (refine wpList_load_abs rfl 22 (.tmp 7) rfl g7 rfl 22 _ hL5 (.array 32 5) Try.underlying22 rfl hzL ?_)
        | (refine wpList_load_abs rfl 22 (.tmp 8) rfl g8 rfl 22 _ hR5 (.array 32 5) Try.underlying22 rfl hzL ?_)
        | (refine list_neq22 rfl (.tmp 23) (.tmp 24) 22 rfl _ hL rfl rfl ?_))
      clear hzL
      go_loop [9] (fun i => ∃ k : Nat, k ≤ 32 ∧ i = .int .i64 k) (fun i => 32 - (intOf i).toNat)
      case atStart => exact ⟨0, Nat.zero_le _, rfl⟩
      case round =>
        obtain ⟨i, hi, rfl⟩ := hrel
        by_cases hlt : i < 32
        · obtain ⟨x, hx⟩ : ∃ x, x = la.getD i 0 := ⟨_, rfl⟩
          obtain ⟨y, hy⟩ : ∃ y, y = lb.getD i 0 := ⟨_, rfl⟩
          obtain ⟨z, hz⟩ : ∃ z, z = lc.getD i 0 := ⟨_, rfl⟩
          obtain ⟨q, hq⟩ : ∃ q, q = x ^^^ y ^^^ z := ⟨_, rfl⟩
          have hx256 : x < 256 := by rw [hx]; exact ha.2 i
          have hy256 : y < 256 := by rw [hy]; exact hb.2 i
          have hz256 : z < 256 := by rw [hz]; exact hc.2 i
          have hca : w5.cell? ⟨ga, i, none⟩ = some (.int .u8 (x : Int)) := by rw [hA5.cell, hx, U_get _ _ (by rw [ha.1]; exact hlt)]
          have hcb : w5.cell? ⟨gb, i, none⟩ = some (.int .u8 (y : Int)) := by rw [hB5.cell, hy, U_get _ _ (by rw [hb.1]; exact hlt)]
          have hcc : w5.cell? ⟨gc, i, none⟩ = some (.int .u8 (z : Int)) := by rw [hC5.cell, hz, U_get _ _ (by rw [hc.1]; exact hlt)]
          have hcq : w5.cell? ⟨g7, i, none⟩ = some (.int .u8 (q : Int)) := by rw [hL5.cell, U_get _ _ (by rw [hL.1]; exact hlt), xorL_getD _ lc (by rw [hab.1, hc.1]), xorL_getD la lb (by rw [ha.1, hb.1]), hq, hx, hy, hz]
          have HQ : Hid (q = x ^^^ y ^^^ z) := hq
          clear hx hy hz hq
          go_wp2
          go_loop [10, 11, 12] (fun j _ _ => ∃ k : Nat, k ≤ 8 ∧ j = .int .u64 k) (fun j _ _ => 8 - (intOf j).toNat)
          case atStart => exact ⟨0, Nat.zero_le _, rfl⟩
          case round =>
            obtain ⟨k, hk, rfl⟩ := hrel
            by_cases hlt8 : k < 8
            · have ex := bit_u8 x k hx256
              have ey := bit_u8 y k hy256
              have ez := bit_u8 z k hz256
              have eq := bit_u8 q k (by rw [HQ.out]; exact Nat.xor_lt_two_pow (n := 8) (Nat.xor_lt_two_pow (n := 8) hx256 hy256) hz256)
              have hpar := bit_xor3 x y z k
              rw [← HQ.out] at hpar
              generalize x / 2 ^ k % 2 = bx at ex hpar
              generalize y / 2 ^ k % 2 = by' at ey hpar
              generalize z / 2 ^ k % 2 = bz at ez hpar
              generalize q / 2 ^ k % 2 = bq at eq hpar
              obtain ⟨lx, ly, lz, hpar⟩ := hpar
              rcases lx with rfl | rfl <;> rcases ly with rfl | rfl <;> rcases lz with rfl | rfl <;> (simp at hpar; subst hpar)
              all_goals
                go_wp2
                go_round
                case rel => exact ⟨k + 1, by omega, by go_num⟩
                case measure => simp [intOf]; omega
            · go_wp2
              go_round
              case rel => exact ⟨i + 1, by omega, by go_num⟩
              case measure => simp [intOf]; omega
        · go_wp2
          go_ret
          exact ⟨rfl, hbel5⟩
end Go.Proofs.Qxb6618425a
