/-
  The search's rows and the plain state that they hold.
-/
import Derived.Test.Qxb6619225aRelax
namespace Go.Proofs.Qxb6619225a
set_option linter.unusedVariables false
open Go.RowKit Mem

/-- The rows hold the plain state. -/
structure Link (T : Nat) (ql dl : List Int) (nl : List Value) (dlf : Nat → Nat) (dn : Nat → Bool) (q : List (Nat × Nat)) (head tail : Nat) : Prop where
  dlen : dl.length = T
  dval : ∀ x, x < T → dl.getD x 0 = (dlf x : Int)
  nlen : nl.length = T
  nval : ∀ x, x < T → nl[x]? = some (.bool (dn x))
  tl : tail = head + q.length
  qval : ∀ i, i < q.length → ql.getD (head + i) 0 = ((q.getD i (0, 0)).1 : Int)

theorem Link.relax {T : Nat} {ql dl : List Int} {nl : List Value} {dlf : Nat → Nat} {dn : Nat → Bool} {q : List (Nat × Nat)} {head tail : Nat} (L : Link T ql dl nl dlf dn q head tail) (u nd : Nat) (free : Bool) (hu : u < T) (hh : 0 < head) (hhq : head < ql.length) (ht : tail < ql.length) :
    Link T (relQl dl ql head tail u nd free) (relDl dl u nd) nl (relaxD dlf u nd) dn (relaxQ dlf q u nd free) (relHead dl head u nd free) (relTail dl tail u nd free) := by
  have hX := L.dval u hu
  unfold relQl relDl relHead relTail relaxD relaxQ
  rw [hX]
  by_cases h : nd < dlf u
  · have hi : (nd : Int) < (dlf u : Int) := by omega
    rw [if_pos hi, if_pos hi, if_pos hi, if_pos hi, if_pos h, if_pos h]
    have dv : ∀ x, x < T → (dl.set u (nd : Int)).getD x 0 = ((if x = u then nd else dlf x : Nat) : Int) := fun x hx => by
      rw [set_getD dl u x _ (by rw [L.dlen]; exact hu)]
      by_cases e : x = u
      · rw [if_pos e, if_pos e]
      · rw [if_neg e, if_neg e]; exact L.dval x hx
    cases free with
    | true =>
      refine ⟨by rw [List.length_set]; exact L.dlen, dv, L.nlen, L.nval, ?_, fun i hi => ?_⟩
      · have := L.tl
        show tail = head - 1 + (List.length ((u, nd) :: q))
        rw [List.length_cons]; omega
      · show (ql.set (head - 1) (u : Int)).getD (head - 1 + i) 0 = _
        rw [set_getD ql (head - 1) _ _ (by omega)]
        cases i with
        | zero => rw [if_pos (Nat.add_zero _)]; rfl
        | succ i =>
          rw [if_neg (by omega)]
          have hi' : i < q.length := by have : i + 1 < ((u, nd) :: q).length := hi; simpa using this
          have e : head - 1 + (i + 1) = head + i := by omega
          rw [e, L.qval i hi']; rfl
    | false =>
      refine ⟨by rw [List.length_set]; exact L.dlen, dv, L.nlen, L.nval, ?_, fun i hi => ?_⟩
      · have := L.tl
        show tail + 1 = head + (q ++ [(u, nd)]).length
        rw [List.length_append]; simp; omega
      · show (ql.set tail (u : Int)).getD (head + i) 0 = _
        rw [set_getD ql tail _ _ ht]
        have htl := L.tl
        have hi' : i < (q ++ [(u, nd)]).length := hi
        rw [List.length_append] at hi'
        simp at hi'
        show _ = (((q ++ [(u, nd)]).getD i (0, 0)).1 : Int)
        by_cases e : i < q.length
        · rw [if_neg (by omega), L.qval i e]
          simp [List.getD_eq_getElem?_getD, List.getElem?_append_left e]
        · have e' : i = q.length := by omega
          rw [if_pos (by omega), e']
          simp [List.getD_eq_getElem?_getD]
  · have hi : ¬ (nd : Int) < (dlf u : Int) := by omega
    rw [if_neg hi, if_neg hi, if_neg hi, if_neg hi, if_neg h, if_neg h]
    exact L

/-- The rows hold the state while a place is being handled. -/
def St (T inf : Nat) (ds : Nat → Nat) (w : World) (gq gd gn Lq : Nat) (dn : Nat → Bool) (k : Nat) (dlf : Nat → Nat) (q : List (Nat × Nat)) (head tail : Nat) : Prop :=
  ∃ (ql dl : List Int) (nl : List Value), Three w gq gd gn ql dl nl ∧ ql.length = Lq ∧ Link T ql dl nl dlf dn q head tail ∧ Mid T inf ds dn k dlf q

theorem relHead_le (dl : List Int) (head u : Nat) (nd : Int) (free : Bool) : relHead dl head u nd free ≤ head ∧ head ≤ relHead dl head u nd free + 1 := by
  unfold relHead; cases free <;> simp only [if_true, Bool.false_eq_true, if_false] <;> split <;> omega
theorem relTail_le (dl : List Int) (tail u : Nat) (nd : Int) (free : Bool) : tail ≤ relTail dl tail u nd free ∧ relTail dl tail u nd free ≤ tail + 1 := by
  unfold relTail; cases free <;> simp only [if_true, Bool.false_eq_true, if_false] <;> split <;> omega
theorem rel_both (dl : List Int) (head tail u : Nat) (nd : Int) (free : Bool) : relTail dl tail u nd free + head ≤ tail + relHead dl head u nd free + 1 := by
  unfold relTail relHead; cases free <;> simp only [if_true, Bool.false_eq_true, if_false] <;> split <;> omega
theorem relQl_length (dl ql : List Int) (head tail u : Nat) (nd : Int) (free : Bool) : (relQl dl ql head tail u nd free).length = ql.length := by
  unfold relQl; cases free <;> simp only [if_true, Bool.false_eq_true, if_false] <;> split <;> simp

theorem relax_st {T inf : Nat} {ds : Nat → Nat} {edge : Nat → Nat → Nat → Prop} (G : Graph T inf ds edge) (gq gd gn Lq : Nat) (dn : Nat → Bool) (k : Nat) (dlf : Nat → Nat) (q : List (Nat × Nat)) (head tail v u c : Nat) (free : Bool) (nd : Int) (w : World) (B : Nat)
    (h : St T inf ds w gq gd gn Lq dn k dlf q head tail) (hB : B ≤ gq ∧ B ≤ gd) (hv : v < T) (hdv : dn v = true) (hk : dlf v = k) (hu : u < T) (he : edge v u c) (hc : c ≤ 1) (hfree : free = (c == 0)) (hnd : nd = ((k + c : Nat) : Int))
    (hh : 0 < head) (hhq : head < Lq) (ht : tail < Lq) (hLq : Lq ≤ 1000000) (hT : T ≤ 1000000) :
    Calls Try.prog 22 #[.slice (some ⟨gq, 0, none⟩) Lq Lq, .slice (some ⟨gd, 0, none⟩) T T, .int .i64 head, .int .i64 tail, .int .i64 u, .int .i64 nd, .bool free] w
      fun e w' => ∃ (head' tail' : Nat), e = .returned (.tuple #[.int .i64 head', .int .i64 tail']) ∧ head ≤ head' + 1 ∧ tail' ≤ tail + 1 ∧ head' ≤ head ∧ tail' + head ≤ tail + head' + 1 ∧ Below B w w' ∧
        Hid (∃ (dlf' : Nat → Nat) (q' : List (Nat × Nat)), St T inf ds w' gq gd gn Lq dn k dlf' q' head' tail' ∧ dlf' u ≤ k + c ∧ (∀ x, dlf' x ≤ dlf x)) := by
  obtain ⟨ql, dl, nl, h3, rfl, L, M⟩ := h
  obtain rfl := L.dlen
  subst hfree hnd
  refine (relax_any gq gd gn ql dl nl head tail u _ _ w B h3 hB hu hh hhq ht hLq hT).mono ?_
  rintro e w' ⟨rfl, h3', hb⟩
  refine ⟨_, _, rfl, (relHead_le _ _ _ _ _).2, (relTail_le _ _ _ _ _).2, (relHead_le _ _ _ _ _).1, rel_both _ _ _ _ _ _, hb, ?_⟩
  exact ⟨_, _, ⟨_, _, _, h3', relQl_length _ _ _ _ _ _ _, L.relax u (k + c) _ hu hh hhq ht, M.relax G hv hdv hk hu he hc⟩, relaxD_at _ _ _, relaxD_le _ _ _⟩

/-- How many of the first T are marked. -/
def cnt (dn : Nat → Bool) : Nat → Nat
  | 0 => 0
  | T + 1 => cnt dn T + (dn T).toNat
theorem cnt_le (dn : Nat → Bool) : ∀ T, cnt dn T ≤ T
  | 0 => Nat.le_refl _
  | T + 1 => by have := cnt_le dn T; simp only [cnt]; cases dn T <;> simp <;> omega
theorem cnt_congr {dn dn' : Nat → Bool} : ∀ T, (∀ x, x < T → dn x = dn' x) → cnt dn T = cnt dn' T
  | 0, _ => rfl
  | T + 1, h => by simp only [cnt]; rw [cnt_congr T (fun x hx => h x (by omega)), h T (by omega)]
theorem cnt_set {dn : Nat → Bool} {v : Nat} (hv : dn v = false) : ∀ T, v < T → cnt (fun x => if x = v then true else dn x) T = cnt dn T + 1
  | 0, h => absurd h (by omega)
  | T + 1, h => by
    simp only [cnt]
    by_cases e : v = T
    · subst e
      rw [cnt_congr (dn := fun x => if x = v then true else dn x) (dn' := dn) v (fun x hx => by rw [if_neg (by omega)]), if_pos rfl, hv]
      rfl
    · rw [cnt_set hv T (by omega), if_neg (c := T = v) (by omega)]
      omega

open Classical in
/-- The same, read off the world. -/
noncomputable def cntW (w : World) (gn T : Nat) : Nat := cnt (fun x => decide (w.cell? ⟨gn, x, none⟩ = some (.bool true))) T
theorem St.cntW {T inf : Nat} {ds : Nat → Nat} {w : World} {gq gd gn Lq : Nat} {dn : Nat → Bool} {k : Nat} {dlf : Nat → Nat} {q : List (Nat × Nat)} {head tail : Nat} (h : St T inf ds w gq gd gn Lq dn k dlf q head tail) : cntW w gn T = cnt dn T := by
  obtain ⟨ql, dl, nl, h3, _, L, _⟩ := h
  unfold Qxb6619225a.cntW
  refine cnt_congr T fun x hx => ?_
  rw [h3.rn.cell, L.nval x hx]
  cases dn x <;> simp

theorem St.pop {T inf : Nat} {ds : Nat → Nat} {edge : Nat → Nat → Nat → Prop} (G : Graph T inf ds edge) {w : World} {gq gd gn Lq : Nat} {dn : Nat → Bool} {k : Nat} {dlf : Nat → Nat} {q : List (Nat × Nat)} {head tail : Nat} (h : St T inf ds w gq gd gn Lq dn k dlf q head tail)
    (R : ∀ x, x < T → dn x = true → Relaxed edge dlf x) (hlt : head < tail) (htq : tail ≤ Lq) :
    ∃ (v d : Nat), v < T ∧ d ≤ inf ∧ w.cell? ⟨gq, head, none⟩ = some (.int .i64 v) ∧ w.cell? ⟨gn, v, none⟩ = some (.bool (dn v)) ∧ w.frozen? ⟨gn, v, none⟩ = false ∧
      (w.setCell ⟨gn, v, none⟩ (.bool true)).cell? ⟨gd, v, none⟩ = some (.int .i64 d) ∧
      (dn v = true → ∃ q', St T inf ds w gq gd gn Lq dn k dlf q' (head + 1) tail) ∧
      (dn v = false → dlf v = d ∧ cnt dn T + 1 ≤ T ∧ ∃ q', St T inf ds (w.setCell ⟨gn, v, none⟩ (.bool true)) gq gd gn Lq (fun x => if x = v then true else dn x) d dlf q' (head + 1) tail) := by
  obtain ⟨ql, dl, nl, h3, hql, L, M⟩ := h
  have htl := L.tl
  cases q with
  | nil => simp at htl; omega
  | cons e q =>
    obtain ⟨v, κ⟩ := e
    obtain ⟨hv, hvk⟩ := M.key (v, κ) List.mem_cons_self
    have q0 := L.qval 0 (by simp)
    have hlen : tail = head + 1 + q.length := by rw [htl, List.length_cons]; omega
    have Lpop : ∀ nl' dn', nl'.length = T → (∀ x, x < T → nl'[x]? = some (.bool (dn' x))) → Link T ql dl nl' dlf dn' q (head + 1) tail := fun nl' dn' g1 g2 =>
      ⟨L.dlen, L.dval, g1, g2, hlen, fun i hi => by have := L.qval (i + 1) (by simpa using hi); rw [show head + 1 + i = head + (i + 1) by omega, this]; rfl⟩
    have hh := h3.setN v (.bool true)
    have hdv := L.dval v hv
    have hdi : dlf v ≤ inf := M.cap v hv
    refine ⟨v, dlf v, hv, hdi, ?_, ?_, h3.rn.frozen v, ?_, fun hd => ?_, fun hd => ⟨rfl, ?_, ?_⟩⟩
    · rw [h3.rq.cell, V64_get _ _ (by omega)]; rw [Nat.add_zero] at q0; rw [q0]; rfl
    · rw [h3.rn.cell, L.nval v hv]
    · rw [hh.rd.cell, V64_get _ _ (by rw [L.dlen]; exact hv), hdv]
    · exact ⟨q, ql, dl, nl, h3, hql, Lpop nl dn L.nlen L.nval, M.popDone hd⟩
    · rw [← cnt_set hd T hv]; exact cnt_le _ _
    · obtain ⟨_, e, M'⟩ := M.pop G R hd
      refine ⟨q, ql, dl, _, hh, hql, Lpop _ _ (by rw [List.length_set]; exact L.nlen) (fun x hx => ?_), by rw [e]; exact M'⟩
      by_cases e : x = v
      · subst e; rw [List.getElem?_set_self (by rw [L.nlen]; exact hv), if_pos rfl]
      · rw [List.getElem?_set_ne (by omega), L.nval x hx, if_neg e]

/-- While place v is being handled: F is what has been relaxed so far. -/
def Step (T inf : Nat) (ds : Nat → Nat) (gq gd gn Lq : Nat) (dn : Nat → Bool) (d : Nat) (dlf : Nat → Nat) (F : (Nat → Nat) → Prop) (w : World) (head tail : Nat) : Prop :=
  ∃ (f : Nat → Nat) (q : List (Nat × Nat)), St T inf ds w gq gd gn Lq dn d f q head tail ∧ F f ∧ ∀ x, f x ≤ dlf x

def Low (F : (Nat → Nat) → Prop) : Prop := ∀ f g : Nat → Nat, (∀ x, g x ≤ f x) → F f → F g

theorem relax_step {T inf : Nat} {ds : Nat → Nat} {edge : Nat → Nat → Nat → Prop} (G : Graph T inf ds edge) (gq gd gn Lq : Nat) (dn : Nat → Bool) (d : Nat) (dlf : Nat → Nat) (F : (Nat → Nat) → Prop) (hF : Low F) (head tail v u c : Nat) (free : Bool) (nd ui : Int) (w : World) (B : Nat)
    (h : Step T inf ds gq gd gn Lq dn d dlf F w head tail) (hB : B ≤ gq ∧ B ≤ gd) (hv : v < T) (hdv : dn v = true) (hk : ds v = d) (hu : u < T) (he : edge v u c) (hc : c ≤ 1) (hfree : free = (c == 0)) (hnd : nd = ((d + c : Nat) : Int)) (hui : ui = (u : Int))
    (hh : 0 < head) (hhq : head < Lq) (ht : tail < Lq) (hLq : Lq ≤ 1000000) (hT : T ≤ 1000000) :
    Calls Try.prog 22 #[.slice (some ⟨gq, 0, none⟩) Lq Lq, .slice (some ⟨gd, 0, none⟩) T T, .int .i64 head, .int .i64 tail, .int .i64 ui, .int .i64 nd, .bool free] w
      fun e w' => ∃ (head' tail' : Nat), e = .returned (.tuple #[.int .i64 head', .int .i64 tail']) ∧ head ≤ head' + 1 ∧ tail' ≤ tail + 1 ∧ head' ≤ head ∧ tail' + head ≤ tail + head' + 1 ∧ Below B w w' ∧
        Hid (Step T inf ds gq gd gn Lq dn d dlf (fun f => F f ∧ f u ≤ d + c) w' head' tail') := by
  obtain ⟨f, q, hS, hFf, hle⟩ := h
  subst hui
  have hkk : f v = d := by obtain ⟨_, _, _, _, _, _, M⟩ := hS; rw [M.isDone v hv hdv, hk]
  refine (relax_st G gq gd gn Lq dn d f q head tail v u c free nd w B hS hB hv hdv hkk hu he hc hfree hnd hh hhq ht hLq hT).mono ?_
  rintro e w' ⟨head', tail', rfl, b1, b2, b3, b4, hb, H⟩
  obtain ⟨f', q', hS', hu', hle'⟩ := H.out
  exact ⟨head', tail', rfl, b1, b2, b3, b4, hb, f', q', hS', ⟨hF f f' hle' hFf, hu'⟩, fun x => Nat.le_trans (hle' x) (hle x)⟩

theorem relax_stepI {T inf : Nat} {ds : Nat → Nat} {edge : Nat → Nat → Nat → Prop} (G : Graph T inf ds edge) (gq gd gn Lq : Nat) (dn : Nat → Bool) (d : Nat) (dlf : Nat → Nat) (F : (Nat → Nat) → Prop) (hF : Low F) (head tail v u c : Nat) (free : Bool) (nd ui hi ti : Int) (w : World) (B : Nat)
    (h : Step T inf ds gq gd gn Lq dn d dlf F w head tail) (hB : B ≤ gq ∧ B ≤ gd) (hv : v < T) (hdv : dn v = true) (hk : ds v = d) (hu : u < T ∧ c ≤ 1) (he : edge v u c) (hfree : free = (c == 0)) (hnd : nd = ((d + c : Nat) : Int)) (hui : ui = (u : Int)) (hhi : hi = (head : Int)) (hti : ti = (tail : Int))
    (hh : 0 < head) (hhq : head < Lq) (ht : tail < Lq) (hLq : Lq ≤ 1000000) (hT : T ≤ 1000000) :
    Calls Try.prog 22 #[.slice (some ⟨gq, 0, none⟩) Lq Lq, .slice (some ⟨gd, 0, none⟩) T T, .int .i64 hi, .int .i64 ti, .int .i64 ui, .int .i64 nd, .bool free] w
      fun e w' => ∃ (head' tail' : Nat), e = .returned (.tuple #[.int .i64 head', .int .i64 tail']) ∧ head ≤ head' + 1 ∧ tail' ≤ tail + 1 ∧ head' ≤ head ∧ tail' + head ≤ tail + head' + 1 ∧ Below B w w' ∧
        Hid (Step T inf ds gq gd gn Lq dn d dlf (fun f => F f ∧ f u ≤ d + c) w' head' tail') := by
  subst hhi hti
  exact relax_step G gq gd gn Lq dn d dlf F hF head tail v u c free nd ui w B h hB hv hdv hk hu.1 he hu.2 hfree hnd hui hh hhq ht hLq hT

theorem Step.weak {T inf : Nat} {ds : Nat → Nat} {gq gd gn Lq : Nat} {dn : Nat → Bool} {d : Nat} {dlf : Nat → Nat} {F F' : (Nat → Nat) → Prop} {w : World} {head tail : Nat} (h : Step T inf ds gq gd gn Lq dn d dlf F w head tail) (hF : ∀ f, F f → F' f) : Step T inf ds gq gd gn Lq dn d dlf F' w head tail := by
  obtain ⟨f, q, a, b, c⟩ := h
  exact ⟨f, q, a, hF f b, c⟩

theorem Step.drewN {T inf : Nat} {ds : Nat → Nat} {gq gd gn Lq : Nat} {dn : Nat → Bool} {d : Nat} {dlf : Nat → Nat} {F : (Nat → Nat) → Prop} {w : World} {head tail : Nat} (h : Step T inf ds gq gd gn Lq dn d dlf F w head tail) (n : Nat) : Step T inf ds gq gd gn Lq dn d dlf F (w.drewN n) head tail := by
  obtain ⟨f, q, ⟨ql, dl, nl, h3, a⟩, b⟩ := h
  exact ⟨f, q, ⟨ql, dl, nl, h3.drewN n, a⟩, b⟩

/-- What has been relaxed once the four edges of place v = (i, j) are behind. -/
def F1 (n m v d i : Nat) (f : Nat → Nat) : Prop := i < n → f (v + (m + 1)) ≤ d + 1
def F2 (m v d j : Nat) (f : Nat → Nat) : Prop := j < m → f (v + 1) ≤ d + 1
def F3 (a b : List Int) (n m v d i j : Nat) (f : Nat → Nat) : Prop := i < n → j < m → f (v + (m + 1) + 1) ≤ d + cost a b i j
def F4 (a b : List Int) (n m v d i j : Nat) (f : Nat → Nat) : Prop := i + 1 < n → j + 1 < m → a.getD i 0 = b.getD (j + 1) 0 → a.getD (i + 1) 0 = b.getD j 0 → f (v + 2 * (m + 1) + 2) ≤ d + 1
theorem F1.low (n m v d i : Nat) : Low (F1 n m v d i) := fun f g h hf h1 => Nat.le_trans (h _) (hf h1)
theorem F2.low (m v d j : Nat) : Low (F2 m v d j) := fun f g h hf h1 => Nat.le_trans (h _) (hf h1)
theorem F3.low (a b : List Int) (n m v d i j : Nat) : Low (F3 a b n m v d i j) := fun f g h hf h1 h2 => Nat.le_trans (h _) (hf h1 h2)
theorem F4.low (a b : List Int) (n m v d i j : Nat) : Low (F4 a b n m v d i j) := fun f g h hf h1 h2 h3 h4 => Nat.le_trans (h _) (hf h1 h2 h3 h4)
theorem Low.and {F G : (Nat → Nat) → Prop} (hF : Low F) (hG : Low G) : Low (fun f => F f ∧ G f) := fun f g h hf => ⟨hF f g h hf.1, hG f g h hf.2⟩
theorem Low.true : Low (fun _ => True) := fun _ _ _ _ => trivial

/-- The round's end: every place that is done is relaxed, one more is done. -/
theorem Step.done {a b : List Int} {n m T inf : Nat} {ds : Nat → Nat} {gq gd gn Lq : Nat} {dn : Nat → Bool} {v d i j : Nat} {dlf : Nat → Nat} {w : World} {head tail : Nat} 
    (h : Step T inf ds gq gd gn Lq (fun x => if x = v then true else dn x) d dlf (fun f => ((F1 n m v d i f ∧ F2 m v d j f) ∧ F3 a b n m v d i j f) ∧ F4 a b n m v d i j f) w head tail)
    (R : ∀ x, x < T → dn x = true → Relaxed (gridE a b n m) dlf x) (hd0 : ∀ x, x < T → dn x = true → dlf x = ds x) (hdv : dn v = false) (hv : v < T) (hk : ds v = d) (hvij : v = i * (m + 1) + j) (hj : j ≤ m) :
    cntW w gn T = cnt dn T + 1 ∧ ∃ dn k f q, St T inf ds w gq gd gn Lq dn k f q head tail ∧ (∀ x, x < T → dn x = true → Relaxed (gridE a b n m) f x) := by
  obtain ⟨f, q, hS, ⟨⟨⟨f1, f2⟩, f3⟩, f4⟩, hle⟩ := h
  refine ⟨by rw [hS.cntW, cnt_set hdv T hv], _, _, f, q, hS, fun x hx hdx => ?_⟩
  have hfx : f x = ds x := by obtain ⟨_, _, _, _, _, _, M⟩ := hS; exact M.isDone x hx hdx
  by_cases e : x = v
  · subst e
    intro u c hE
    rw [hfx, hk]
    obtain ⟨i', j', e, hj', hE⟩ := hE
    obtain ⟨rfl, rfl⟩ := grid_same hj hj' (hvij.symm.trans e)
    rcases hE with ⟨h1, rfl, rfl⟩ | ⟨h1, rfl, rfl⟩ | ⟨h1, h2, rfl, rfl⟩ | ⟨h1, h2, e1, e2, rfl, rfl⟩
    · exact f1 h1
    · exact f2 h1
    · exact f3 h1 h2
    · exact f4 h1 h2 e1 e2
  · have hdx' : dn x = true := by simpa [e] using hdx
    intro u c hE
    rw [hfx, ← hd0 x hx hdx']
    exact Nat.le_trans (hle u) (R x hx hdx' u c hE)
end Go.Proofs.Qxb6619225a
