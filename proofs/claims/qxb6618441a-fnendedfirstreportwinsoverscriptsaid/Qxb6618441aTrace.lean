/-
  The trace: (*trace).ended and its shims.
-/
import Derived.Test.Qxb6618441aMap
namespace Go.Proofs.Qxb6618441a
set_option linter.unusedVariables false
open Go.RowKit Mem

/-- A row of commands: those of cs, their ends as es has them. -/
def IsRow (vs : List Value) (cs : List Cmd) (es : List Int) : Prop :=
  vs.length = cs.length * 5 ∧ ∀ i, i < cs.length → vs[i * 5]? = some (.int .i64 (cs.getD i Cmd.none).r) ∧ vs[i * 5 + 1]? = some (.string (cs.getD i Cmd.none).d) ∧ vs[i * 5 + 2]? = some (.string (cs.getD i Cmd.none).a) ∧
    vs[i * 5 + 3]? = some (.int .i64 (cs.getD i Cmd.none).s) ∧ vs[i * 5 + 4]? = some (.int .i64 (es.getD i 0))

theorem IsRow.setEnd {vs : List Value} {cs : List Cmd} {es : List Int} (h : IsRow vs cs es) (he : es.length = cs.length) (p : Nat) (hp : p < cs.length) (x : Int) : IsRow (vs.set (p * 5 + 4) (.int .i64 x)) cs (es.set p x) := by
  refine ⟨by simpa using h.1, fun i hi => ?_⟩
  obtain ⟨h0, h1, h2, h3, h4⟩ := h.2 i hi
  have hl := h.1
  refine ⟨?_, ?_, ?_, ?_, ?_⟩
  · rw [List.getElem?_set_ne (by omega)]; exact h0
  · rw [List.getElem?_set_ne (by omega)]; exact h1
  · rw [List.getElem?_set_ne (by omega)]; exact h2
  · rw [List.getElem?_set_ne (by omega)]; exact h3
  · by_cases e : p = i
    · subst e
      rw [List.getElem?_set_self (by omega)]
      simp [List.getD_eq_getElem?_getD, List.getElem?_set_self (show p < es.length by omega)]
    · rw [List.getElem?_set_ne (by omega), h4]
      simp [List.getD_eq_getElem?_getD, List.getElem?_set_ne e]

/-- The trace's box. -/
def traceCells (gc n gm : Nat) : List Value := [.slice (some ⟨gc, 0, none⟩) n n, .map (some gm), .slice none 0 0, .slice none 0 0, .slice none 0 0]

/-- What lies where. -/
structure Trace (w : World) (gt gc gm m : Nat) (cs : List Cmd) (es : List Int) (f : Int → Option Int) (ks : List Int) : Prop where
  box : Arr w gt 47 (traceCells gc cs.length gm)
  row : ∃ vs, Arr w gc 33 vs ∧ IsRow vs cs es
  map : MapIs w gm m f ks
  tc : gt ≠ gc
  tm : gt ≠ gm
  cm : gc ≠ gm

theorem Trace.below {w w' : World} {gt gc gm m : Nat} {cs : List Cmd} {es : List Int} {f : Int → Option Int} {ks : List Int} (h : Trace w gt gc gm m cs es f ks) (hb : Below w.heap.size w w') : Trace w' gt gc gm m cs es f ks := by
  obtain ⟨vs, h1, h2⟩ := h.row
  exact ⟨h.box.below hb h.box.lt, ⟨vs, h1.below hb h1.lt, h2⟩, h.map.below hb, h.tc, h.tm, h.cm⟩

theorem Trace.belowB {w w' : World} {gt gc gm m B : Nat} {cs : List Cmd} {es : List Int} {f : Int → Option Int} {ks : List Int} (h : Trace w gt gc gm m cs es f ks) (hb : Below B w w') (h1 : gt < B) (h2 : gc < B) (h3 : gm < B) : Trace w' gt gc gm m cs es f ks := by
  obtain ⟨vs, q1, q2⟩ := h.row
  obtain ⟨D, d1, d2⟩ := h.map
  obtain ⟨es', clock, e1, e2⟩ := d1
  exact ⟨h.box.below hb h1, ⟨vs, q1.below hb h2, q2⟩, ⟨D, ⟨es', clock, by rw [hb.block gm h3]; exact e1, e2⟩, d2⟩, h.tc, h.tm, h.cm⟩

def L64 (zs : List Int) : List Value := zs.map (Value.int .i64)
theorem L64_length (zs : List Int) : (L64 zs).length = zs.length := by simp [L64]
theorem L64_get (zs : List Int) (k : Nat) (h : k < zs.length) : (L64 zs)[k]? = some (.int .i64 (zs.getD k 0)) := by
  simp [L64, List.getElem?_eq_getElem h]
theorem L64_set (zs : List Int) (k : Nat) (x : Int) : (L64 zs).set k (.int .i64 x) = L64 (zs.set k x) := by simp [L64, List.map_set]
theorem L64_full {vs : List Value} {l : List Int} (hl : vs.length = l.length) (h : ∀ i, i < l.length → vs[i]? = some (.int .i64 (l.getD i 0))) : vs = L64 l := by
  apply List.ext_getElem?
  intro i
  by_cases hi : i < l.length
  · rw [h i hi, L64_get l i hi]
  · rw [List.getElem?_eq_none (by omega), List.getElem?_eq_none (by rw [L64_length]; omega)]

theorem below_of_grown {w w' : World} {g B : Nat} (hg : w.grownBy w' (some g)) (hB : B ≤ g) (hs : B ≤ w.heap.size) : Below B w w' :=
  ⟨hg.os, hg.tape, hg.output, hg.size, fun k hk => hg.block k (by omega) (by simp; omega)⟩

theorem below_setCells {B g : Nat} {w : World} {o : Nat} {vs : List Value} (hB : B ≤ g) : Below B w (w.setCells g o vs) := by
  have hg := grownBy_setCells (g := g) vs o w
  exact ⟨hg.os, hg.tape, hg.output, hg.size, fun k hk => by
    by_cases hs : k < w.heap.size
    · exact hg.block k hs (by simp; omega)
    · have hsz : (w.setCells g o vs).heap.size = w.heap.size := size_setCells vs o w
      show (w.setCells g o vs).heap[k]? = _
      rw [Array.getElem?_eq_none (by omega), Array.getElem?_eq_none (by omega)]⟩

set_option maxRecDepth 100000 in
set_option maxHeartbeats 800000 in
theorem ended_any (gt gc gm m B : Nat) (cs : List Cmd) (es : List Int) (f : Int → Option Int) (ks : List Int) (now id : Int) (w : World) (h : Trace w gt gc gm m cs es f ks) (he : es.length = cs.length) (hid : W64 id) (hl : cs.length ≤ 4096)
    (hf : ∀ p, f id = some p → 0 ≤ p ∧ p < cs.length) (hBc : B ≤ gc) (hBm : B ≤ gm) :
    Calls Try.prog 12 #[.pointer (some ⟨gt, 0, none⟩), .int .i64 now, .int .i64 id] w fun e w' => e = .returned (.tuple #[]) ∧
      (∃ ks', Trace w' gt gc gm m cs (hit (f id) es now) (without f id) ks') ∧ Below B w w' := by
  obtain ⟨vs, hrow, hvs⟩ := h.row
  have c0 : w.cell? ⟨gt, 0, none⟩ = some (.slice (some ⟨gc, 0, none⟩) cs.length cs.length) := by rw [h.box.cell]; rfl
  have c1 : w.cell? ⟨gt, 1, none⟩ = some (.map (some gm)) := by rw [h.box.cell]; rfl
  have hmlt := h.map.lt
  cases hfi : f id with
  | none =>
    have HF : Hid (f id = none) := hfi
    clear hfi
    go_enter Try.func12, Try.ntmps12
    go_wp2_with (refine wpList_get rfl (.tmp 12) (.tmp 13) rfl gm m f ks rfl h.map id rfl hid ?_; rw [HF.out])
    go_end0
    refine ⟨rfl, ⟨ks, h.box, h.row, h.map.congr (fun x => ?_), h.tc, h.tm, h.cm⟩, Below.refl _ _⟩
    unfold without
    by_cases e : x = id
    · subst e; simp [HF.out]
    · simp [e]
  | some p =>
    obtain ⟨hp0, hp1⟩ := hf p hfi
    obtain ⟨i, rfl⟩ : ∃ i : Nat, p = i := ⟨p.toNat, by omega⟩
    have hi : i < cs.length := by omega
    have HF : Hid (f id = some (i : Int)) := hfi
    have hci : w.cell? ⟨gc, i * 5 + 4, none⟩ = some (.int .i64 (es.getD i 0)) := by rw [hrow.cell]; exact (hvs.2 i hi).2.2.2.2
    have hfi' := hrow.frozen (i * 5 + 4)
    have hm2 := h.map.setCell (g := gc) (k := i * 5 + 4) (Ne.symm h.cm) (.int .i64 now)
    have d1 : (w.setCell ⟨gc, i * 5 + 4, none⟩ (.int .i64 now)).cell? ⟨gt, 1, none⟩ = some (.map (some gm)) := by rw [(h.box.other h.tc _).cell]; rfl
    clear hfi
    go_enter Try.func12, Try.ntmps12
    go_wp2_with (first
      | (refine wpList_get rfl (.tmp 12) (.tmp 13) rfl gm m f ks rfl h.map id rfl hid ?_; rw [HF.out])
      | (refine wpList_del rfl (.tmp 29) (.tmp 30) rfl gm m f ks rfl hm2 id rfl hid ?_; intro w2 hm3 hg3))
    go_end0
    have hne : ∀ k, k ≠ gm → some k ≠ some gm := fun k hk e => hk (by simpa using e)
    refine ⟨rfl, ⟨_, (h.box.other h.tc _).grown hg3 (hne _ h.tm), ⟨_, (hrow.set _ _).grown hg3 (hne _ h.cm), ?_⟩, hm3, h.tc, h.tm, h.cm⟩, ?_⟩
    · exact hvs.setEnd he i hi now
    · exact ((Below.refl _ _).setCell (by simpa using hBc) _).trans (below_of_grown hg3 hBm (by simp; omega))

set_option maxRecDepth 100000 in
set_option maxHeartbeats 800000 in
theorem zzended_any (gt gc gm m B : Nat) (cs : List Cmd) (es : List Int) (f : Int → Option Int) (ks : List Int) (now id : Int) (w : World) (h : Trace w gt gc gm m cs es f ks) (he : es.length = cs.length) (hid : W64 id) (hl : cs.length ≤ 4096)
    (hf : ∀ p, f id = some p → 0 ≤ p ∧ p < cs.length) (hBc : B ≤ gc) (hBm : B ≤ gm) :
    Calls Try.prog 7 #[.pointer (some ⟨gt, 0, none⟩), .int .i64 now, .int .i64 id] w fun e w' => e = .returned (.tuple #[]) ∧
      (∃ ks', Trace w' gt gc gm m cs (hit (f id) es now) (without f id) ks') ∧ Below B w w' := by
  go_enter Try.func7, Try.ntmps7
  go_wp2_with fail
  refine (ended_any gt gc gm m B cs es f ks now id _ h he hid hl hf hBc hBm).mono ?_
  rintro e w' ⟨rfl, h1, h2⟩
  go_wp2_with fail
  go_end0
  exact ⟨rfl, h1, h2⟩

theorem zzcommands_any (gt gc gm n : Nat) (w : World) (h : Arr w gt 47 (traceCells gc n gm)) :
    Calls Try.prog 9 #[.pointer (some ⟨gt, 0, none⟩)] w fun e w' => e = .returned (.slice (some ⟨gc, 0, none⟩) n n) ∧ w = w' := by
  have c0 : w.cell? ⟨gt, 0, none⟩ = some (.slice (some ⟨gc, 0, none⟩) n n) := by rw [h.cell]; rfl
  go_enter Try.func9, Try.ntmps9
  go_wp2
  go_ret
  exact ⟨rfl, rfl⟩

theorem zzrunning_any (gt gc gm n : Nat) (w : World) (h : Arr w gt 47 (traceCells gc n gm)) :
    Calls Try.prog 10 #[.pointer (some ⟨gt, 0, none⟩)] w fun e w' => e = .returned (.map (some gm)) ∧ w = w' := by
  have c0 : w.cell? ⟨gt, 1, none⟩ = some (.map (some gm)) := by rw [h.cell]; rfl
  go_enter Try.func10, Try.ntmps10
  go_wp2
  go_ret
  exact ⟨rfl, rfl⟩

set_option maxRecDepth 100000 in
theorem zznew_any (gc gm n : Nat) (w : World) :
    Calls Try.prog 6 #[.slice (some ⟨gc, 0, none⟩) n n, .map (some gm)] w fun e w' => ∃ gt, e = .returned (.pointer (some ⟨gt, 0, none⟩)) ∧ w.heap.size ≤ gt ∧ Arr w' gt 47 (traceCells gc n gm) ∧ Below w.heap.size w w' := by
  go_enter Try.func6, Try.ntmps6
  go_wp2_with (refine wpList_box_abs rfl 47 (.tmp 7) rfl (.agg (traceCells gc n gm).toArray) rfl ?_; intro gt w1 hgt hgtl hA hb1)
  go_ret
  exact ⟨gt, rfl, hgt, by simpa [Value.cells] using hA, hb1⟩
end Go.Proofs.Qxb6618441a
