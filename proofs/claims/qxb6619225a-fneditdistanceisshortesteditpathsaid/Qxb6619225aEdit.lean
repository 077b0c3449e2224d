/-
  editDistance: it computes the plain distance; nothing that was there turns.
-/
import Derived.Test.Qxb6619225aRows
import Derived.Test.Qxb6619225aMem
import Derived.Test.Qxb6619225aOsa
import Derived.BigQuiet
import Derived.Deep.CutBlock
import Derived.Deep.DeepCutAuto
import Derived.StillTailTactics
import Derived.Lib.MinMax
namespace Go.Proofs.Qxb6619225a
open Go.RowKit Mem

/-- A slice of runes reads as zs. -/
def Rd (w : World) (a : Option Addr) (len : Nat) (zs : List Int) : Prop :=
  zs.length = len ∧ (0 < len → ∃ b off, a = some ⟨b, off, none⟩ ∧ ∀ i, i < len → w.cell? ⟨b, off + i, none⟩ = some (.int .i32 (zs.getD i 0)))

theorem Rd.below {w w' : World} {a : Option Addr} {len : Nat} {zs : List Int} (h : Rd w a len zs) (hb : Below w.heap.size w w') : Rd w' a len zs :=
  ⟨h.1, fun hp => by obtain ⟨b, off, e, hc⟩ := h.2 hp; exact ⟨b, off, e, fun i hi => cell_later hb (hc i hi)⟩⟩

theorem Rd.cell {w : World} {a : Option Addr} {zs : List Int} (h : Rd w a zs.length zs) {i : Nat} (hi : i < zs.length) : ∃ b off, a = some ⟨b, off, none⟩ ∧ ∀ j, j < zs.length → w.cell? ⟨b, off + j, none⟩ = some (.int .i32 (zs.getD j 0)) := by
  obtain ⟨b, off, e, hc⟩ := h.2 (by omega)
  exact ⟨b, off, e, hc⟩

theorem Try.info3 : (Try.prog.info? 3).map (fun i => (i.zero, i.size, i.bytes)) = some (some (.int .i64 0), 1, 8) := by kernel_rfl

/-- A row of the table: its first m + 1 numbers. -/
def IsLine (w : World) (g m : Nat) (f : Nat → Nat) : Prop := ∃ vs, Arr w g 3 vs ∧ vs.length = m + 1 ∧ ∀ j, j ≤ m → vs[j]? = some (.int .i64 (f j : Nat))
/-- A row of which the first k numbers are laid. -/
def LineTo (w : World) (g m k : Nat) (f : Nat → Nat) : Prop := ∃ vs, Arr w g 3 vs ∧ vs.length = m + 1 ∧ ∀ j, j < k → vs[j]? = some (.int .i64 (f j : Nat))

theorem IsLine.cell {w : World} {g m : Nat} {f : Nat → Nat} (h : IsLine w g m f) (j : Nat) (hj : j ≤ m) : w.cell? ⟨g, j, none⟩ = some (.int .i64 (f j : Nat)) := by
  obtain ⟨vs, h1, h2, h3⟩ := h; rw [h1.cell]; exact h3 j hj
theorem LineTo.cell {w : World} {g m k : Nat} {f : Nat → Nat} (h : LineTo w g m k f) (j : Nat) (hj : j < k) : w.cell? ⟨g, j, none⟩ = some (.int .i64 (f j : Nat)) := by
  obtain ⟨vs, h1, h2, h3⟩ := h; rw [h1.cell]; exact h3 j hj
theorem LineTo.there {w : World} {g m k : Nat} {f : Nat → Nat} (h : LineTo w g m k f) (j : Nat) (hj : j ≤ m) : ∃ v, w.cell? ⟨g, j, none⟩ = some v := by
  obtain ⟨vs, h1, h2, h3⟩ := h; rw [h1.cell]; exact ⟨_, List.getElem?_eq_getElem (by omega)⟩
theorem LineTo.frozen {w : World} {g m k : Nat} {f : Nat → Nat} (h : LineTo w g m k f) (j : Nat) : w.frozen? ⟨g, j, none⟩ = false := by
  obtain ⟨vs, h1, h2, h3⟩ := h; exact h1.frozen j
theorem LineTo.lt {w : World} {g m k : Nat} {f : Nat → Nat} (h : LineTo w g m k f) : g < w.heap.size := by obtain ⟨vs, h1, _⟩ := h; exact h1.lt
theorem LineTo.put {w : World} {g m k : Nat} {f : Nat → Nat} (h : LineTo w g m k f) (hk : k ≤ m) (x : Int) (hx : x = f k) : LineTo (w.setCell ⟨g, k, none⟩ (.int .i64 x)) g m (k + 1) f := by
  obtain ⟨vs, h1, h2, h3⟩ := h
  subst hx
  refine ⟨_, h1.set k _, by simpa using h2, fun j hj => ?_⟩
  by_cases e : j = k
  · subst e; rw [List.getElem?_set_self (by omega)]
  · rw [List.getElem?_set_ne (by omega)]; exact h3 j (by omega)
theorem LineTo.other {w : World} {g m k : Nat} {f : Nat → Nat} (h : LineTo w g m k f) {b i : Nat} (hb : g ≠ b) (v : Value) : LineTo (w.setCell ⟨b, i, none⟩ v) g m k f := by
  obtain ⟨vs, h1, h2⟩ := h; exact ⟨vs, h1.other hb v, h2⟩
theorem IsLine.other {w : World} {g m : Nat} {f : Nat → Nat} (h : IsLine w g m f) {b i : Nat} (hb : g ≠ b) (v : Value) : IsLine (w.setCell ⟨b, i, none⟩ v) g m f := by
  obtain ⟨vs, h1, h2⟩ := h; exact ⟨vs, h1.other hb v, h2⟩
theorem IsLine.to {w : World} {g m : Nat} {f f' : Nat → Nat} (h : IsLine w g m f) : LineTo w g m 0 f' := by
  obtain ⟨vs, h1, h2, _⟩ := h; exact ⟨vs, h1, h2, fun j hj => absurd hj (by omega)⟩
theorem LineTo.full {w : World} {g m k : Nat} {f : Nat → Nat} (h : LineTo w g m k f) (hk : m < k) : IsLine w g m f := by
  obtain ⟨vs, h1, h2, h3⟩ := h; exact ⟨vs, h1, h2, fun j hj => h3 j (by omega)⟩
theorem LineTo.forget {w : World} {g m k : Nat} {f f' : Nat → Nat} (h : LineTo w g m k f) : LineTo w g m 0 f' := by
  obtain ⟨vs, h1, h2, h3⟩ := h; exact ⟨vs, h1, h2, fun j hj => absurd hj (by omega)⟩
theorem LineTo.below {w w' : World} {g m k B : Nat} {f : Nat → Nat} (h : LineTo w g m k f) (hb : Below B w w') (hg : g < B) : LineTo w' g m k f := by
  obtain ⟨vs, h1, h2⟩ := h; exact ⟨vs, h1.below hb hg, h2⟩

theorem LineTo.scratch {w : World} {g m k i : Nat} {f : Nat → Nat} (h : LineTo w g m k f) (hi : k ≤ i) (v : Value) : LineTo (w.setCell ⟨g, i, none⟩ v) g m k f := by
  obtain ⟨vs, h1, h2, h3⟩ := h
  refine ⟨_, h1.set i v, by simpa using h2, fun j hj => ?_⟩
  rw [List.getElem?_set_ne (by omega)]
  exact h3 j hj

theorem made_line {w : World} {g m : Nat} {f : Nat → Nat} (h : Arr w g 3 (List.replicate (m + 1) (.int .i64 0))) : LineTo w g m 0 f := ⟨_, h, by simp, fun j hj => absurd hj (by omega)⟩

/-- The least of three, and of two. -/
def mn3 (x y z : Int) : Int := min x (min y z)
def mn2 (x y : Int) : Int := min x y
theorem run_mn3 {P : Program} (w : World) (ts : Array TypeId) (t : TypeId) (k k' k'' : IntKind) (x y z : Int) : (Builtin.min_ ts t #[.int k x, .int k' y, .int k'' z]).run P w = .ok (.int k (mn3 x y z)) w := by
  have e : (if z < (if y < x then y else x) then z else (if y < x then y else x)) = mn3 x y z := by
    unfold mn3
    split <;> split at * <;> omega
  rw [run_min_int3, e]
theorem run_mn2 {P : Program} (w : World) (ts : Array TypeId) (t : TypeId) (k k' : IntKind) (x y : Int) : (Builtin.min_ ts t #[.int k x, .int k' y]).run P w = .ok (.int k (mn2 x y)) w := Lib.run_min_ints w ts t k k' x y
attribute [local go_sem high] run_mn3 run_mn2

theorem fin_plain {a b : List Int} {k t d1 d2 d3 c : Nat} (e1 : d1 = D a b k (t + 1)) (e2 : d2 = D a b k t) (e3 : d3 = D a b (k + 1) t) (hc : cost a b k t = c) (hs : swapB a b k t = false) :
    mn3 ((d1 : Int) + 1) ((d3 : Int) + 1) ((d2 : Int) + c) = ((D a b (k + 1) (t + 1) : Nat) : Int) := by
  rw [D_succ, hs]
  simp only [Bool.false_eq_true, if_false, three, mn3, ← e1, ← e2, ← e3, hc]
  omega
theorem fin_swap {a b : List Int} {k t d1 d2 d3 d4 c : Nat} (e1 : d1 = D a b k (t + 1)) (e2 : d2 = D a b k t) (e3 : d3 = D a b (k + 1) t) (e4 : d4 = D a b (k - 1) (t - 1)) (hc : cost a b k t = c) (hs : swapB a b k t = true) :
    mn2 (mn3 ((d1 : Int) + 1) ((d3 : Int) + 1) ((d2 : Int) + c)) ((d4 : Int) + 1) = ((D a b (k + 1) (t + 1) : Nat) : Int) := by
  rw [D_succ, hs]
  simp only [if_true, three, mn3, mn2, ← e1, ← e2, ← e3, ← e4, hc]
  omega

set_option maxRecDepth 100000 in
set_option maxHeartbeats 2000000 in
theorem edit_any (pa pb : Option Addr) (ca cb : Nat) (a b : List Int) (w : World) (hA : Rd w pa a.length a) (hB : Rd w pb b.length b) (h1 : a.length ≤ 1024) (h2 : b.length ≤ 1024) :
    Calls Try.prog 21 #[.slice pa a.length ca, .slice pb b.length cb] w fun e w' => e = .returned (.int .i64 (dist a b : Nat)) ∧ Below w.heap.size w w' := by
  go_enter Try.func21, Try.ntmps21
  go_upto_region 2 with (at_make; refine wpList_make_abs rfl _ _ 44 rfl 3 (.int .i64 0) 8 Try.underlying44 Try.info3 rfl .i64 .i64 (b.length + 1) _ _ rfl rfl (by omega) (by omega) (by omega) (by omega) ?_; intro g1 w1 hg1 hgl1 hr1 hb1)
  go_upto_region 3 with (at_make; refine wpList_make_abs rfl _ _ 44 rfl 3 (.int .i64 0) 8 Try.underlying44 Try.info3 rfl .i64 .i64 (b.length + 1) _ _ rfl rfl (by omega) (by omega) (by omega) (by omega) ?_; intro g2 w2 hg2 hgl2 hr2 hb2)
  go_upto_region 4 with (at_make; refine wpList_make_abs rfl _ _ 44 rfl 3 (.int .i64 0) 8 Try.underlying44 Try.info3 rfl .i64 .i64 (b.length + 1) _ _ rfl rfl (by omega) (by omega) (by omega) (by omega) ?_; intro g3 w3 hg3 hgl3 hr3 hb3)
  have s1 := hb1.size
  have s2 := hb2.size
  have s3 := hb3.size
  have L1 : LineTo w3 g1 b.length 0 (fun _ => 0) := ((made_line hr1).below hb2 hgl1).below hb3 (by omega)
  have L2 : LineTo w3 g2 b.length 0 (fun j => j) := (made_line hr2).below hb3 hgl2
  have L3 : LineTo w3 g3 b.length 0 (fun _ => 0) := made_line hr3
  have hbel : Below w.heap.size w w3 := hb1.trans ((hb2.mono (by omega)).trans (hb3.mono (by omega)))
  have n12 : g1 < g2 := by omega
  have n23 : g2 < g3 := by omega
  have hw1 : w.heap.size ≤ g1 := hg1
  clear hr1 hr2 hr3 hb1 hb2 hb3 s1 s2 s3 hg1 hg2 hg3 hgl1 hgl2 hgl3
  go_upto_block 0 with fail
  go_cut [] (fun wx => IsLine wx g2 b.length (D a b 0) ∧ LineTo wx g1 b.length 0 (fun _ => 0) ∧ LineTo wx g3 b.length 0 (fun _ => 0) ∧ Below w.heap.size w wx)
  case first =>
    go_wp2
    go_loopw [26, 8] (fun i _ wr => ∃ (k : Nat), k ≤ b.length + 1 ∧ i = .int .i64 k ∧ LineTo wr g2 b.length k (fun j => j) ∧ LineTo wr g1 b.length 0 (fun _ => 0) ∧ LineTo wr g3 b.length 0 (fun _ => 0) ∧ Below w.heap.size w wr) (fun i _ _ => b.length + 1 - (intOf i).toNat)
    case atStart => exact ⟨0, by omega, rfl, L2, L1, L3, hbel⟩
    case round =>
      clear L1 L2 L3 hbel
      obtain ⟨k, hk, rfl, L2, L1, L3, hbel⟩ := hrel
      by_cases hlt : k < b.length + 1
      · obtain ⟨v, hv⟩ := L2.there k (by omega)
        have hf := L2.frozen k
        go_wp2
        go_roundw
        case rel => exact ⟨k + 1, by omega, by go_num, L2.put (by omega) _ rfl, L1.other (by omega) _, L3.other (by omega) _, hbel.setCell (by simp; omega) _⟩
        case measure => simp [intOf]; omega
      · go_wp2
        go_meet
        case rel => exact ⟨L2.full (by omega), L1, L3, hbel⟩
  obtain ⟨w4, rfl⟩ : ∃ w4, w4 = wc := ⟨_, rfl⟩
  obtain ⟨M2, M1, M3, hbel4⟩ := hcut
  clear L1 L2 L3 hbel
  go_wp2
  go_loopw [5, 6, 7, 9, 10, 11] (fun s5 s6 s7 s9 _ _ wr => ∃ (k x y z : Nat), k ≤ a.length ∧ s5 = .slice (some ⟨x, 0, none⟩) (b.length + 1) (b.length + 1) ∧ s6 = .slice (some ⟨y, 0, none⟩) (b.length + 1) (b.length + 1) ∧ s7 = .slice (some ⟨z, 0, none⟩) (b.length + 1) (b.length + 1) ∧
      s9 = .int .i64 ((k : Int) + 1) ∧ w.heap.size ≤ x ∧ w.heap.size ≤ y ∧ w.heap.size ≤ z ∧ x ≠ y ∧ x ≠ z ∧ y ≠ z ∧ IsLine wr y b.length (D a b k) ∧ (0 < k → IsLine wr x b.length (D a b (k - 1))) ∧ LineTo wr x b.length 0 (fun _ => 0) ∧ LineTo wr z b.length 0 (fun _ => 0) ∧ Below w.heap.size w wr)
    (fun _ _ _ i _ _ _ => a.length + 1 - (intOf i).toNat)
  case atStart => exact ⟨0, g1, g2, g3, by omega, rfl, rfl, rfl, rfl, by omega, by omega, by omega, by omega, by omega, by omega, M2, fun h => absurd h (by omega), M1, M3, hbel4⟩
  case round =>
    clear M1 M2 M3 hbel4
    obtain ⟨k, x, y, z, hk, rfl, rfl, rfl, rfl, hx, hy, hz, nxy, nxz, nyz, LY, LX, LX0, LZ, hb⟩ := hrel
    by_cases hlt : k < a.length
    · obtain ⟨ab, aoff, rfl, hAc⟩ := (hA.below hb).cell hlt
      obtain ⟨v, hv⟩ := LZ.there 0 (by omega)
      have hf := LZ.frozen 0
      have LZ1 : LineTo (wr.setCell ⟨z, 0, none⟩ (.int .i64 ((k : Int) + 1))) z b.length 1 (D a b (k + 1)) := LZ.forget.put (by omega) _ (by rw [D_left]; omega)
      have LY1 := LY.other (b := z) (i := 0) nyz (.int .i64 ((k : Int) + 1))
      have LX1 : 0 < k → IsLine (wr.setCell ⟨z, 0, none⟩ (.int .i64 ((k : Int) + 1))) x b.length (D a b (k - 1)) := fun h => (LX h).other nxz _
      have LX01 := LX0.other (b := z) (i := 0) nxz (.int .i64 ((k : Int) + 1))
      have hb1 : Below w.heap.size w (wr.setCell ⟨z, 0, none⟩ (.int .i64 ((k : Int) + 1))) := hb.setCell (by simpa using hz) _
      obtain ⟨wo, rfl⟩ : ∃ wo, wo = wr := ⟨_, rfl⟩
      have hAc' := fun j (hj : j < a.length) => (show ∀ j, j < a.length → w.cell? ⟨ab, aoff + j, none⟩ = some (.int .i32 (a.getD j 0)) by obtain ⟨b', o', e, q⟩ := hA.2 (by omega); simp at e; obtain ⟨rfl, rfl⟩ := e; exact q) j hj
      clear LZ LY LX LX0 hb hAc
      have hle : (k : Int) + 1 ≤ (a.length : Int) := by omega
      have hle' : (k : Int) < (a.length : Int) := by omega
      go_wp2
      go_loopw [10, 11] (fun s10 _ wr => ∃ t : Nat, t ≤ b.length ∧ s10 = .int .i64 ((t : Int) + 1) ∧ LineTo wr z b.length (t + 1) (D a b (k + 1)) ∧ IsLine wr y b.length (D a b k) ∧ (0 < k → IsLine wr x b.length (D a b (k - 1))) ∧ LineTo wr x b.length 0 (fun _ => 0) ∧ Below w.heap.size w wr) (fun j _ _ => b.length + 1 - (intOf j).toNat)
      case atStart => exact ⟨0, by omega, rfl, LZ1, LY1, LX1, LX01, hb1⟩
      case round =>
        clear LZ1 LY1 LX1 LX01 hb1
        obtain ⟨t, ht, rfl, LZ, LY, LX, LX0, hb⟩ := hrel
        by_cases htl : t < b.length
        · have hlf : (t : Int) + 1 ≤ (b.length : Int) := by omega
          obtain ⟨bb, boff, rfl, hBc⟩ := (hB.below hb).cell htl
          have hBc' := fun j (hj : j < b.length) => (show ∀ j, j < b.length → w.cell? ⟨bb, boff + j, none⟩ = some (.int .i32 (b.getD j 0)) by obtain ⟨b', o', e, q⟩ := hB.2 (by omega); simp at e; obtain ⟨rfl, rfl⟩ := e; exact q) j hj
          have hcA := cell_later hb (hAc' k hlt)
          have hcB := hBc t htl
          have hy1 := LY.cell (t + 1) (by omega)
          have hy0 := LY.cell t (by omega)
          have hz0 := LZ.cell t (by omega)
          obtain ⟨v, hz1⟩ := LZ.there (t + 1) (by omega)
          have hzf := LZ.frozen (t + 1)
          have hD1 := D_le a b k (t + 1)
          have hD2 := D_le a b k t
          have hD3 := D_le a b (k + 1) t
          obtain ⟨d1, e1⟩ : ∃ d, d = D a b k (t + 1) := ⟨_, rfl⟩
          obtain ⟨d2, e2⟩ : ∃ d, d = D a b k t := ⟨_, rfl⟩
          obtain ⟨d3, e3⟩ : ∃ d, d = D a b (k + 1) t := ⟨_, rfl⟩
          obtain ⟨X, eX⟩ : ∃ X, X = a.getD k 0 := ⟨_, rfl⟩
          obtain ⟨Y, eY⟩ : ∃ Y, Y = b.getD t 0 := ⟨_, rfl⟩
          rw [← e1] at hy1 hD1
          rw [← e2] at hy0 hD2
          rw [← e3] at hz0 hD3
          rw [← eX] at hcA
          rw [← eY] at hcB
          have E1 : Hid (d1 = D a b k (t + 1)) := e1
          have E2 : Hid (d2 = D a b k t) := e2
          have E3 : Hid (d3 = D a b (k + 1) t) := e3
          have EX : Hid (X = a.getD k 0) := eX
          have EY : Hid (Y = b.getD t 0) := eY
          clear e1 e2 e3 eX eY hBc
          have i0 : (0 : Int) ≤ (t : Int) + 1 := by omega
          have i1 : (t : Int) + 1 < (b.length : Int) + 1 := by omega
          have i2 : (t : Int) < (b.length : Int) := by omega
          have i3 : (t : Int) < (b.length : Int) + 1 := by omega
          have i4 : (k : Int) < (a.length : Int) := by omega
          have q7 : IntKind.i64.wrap (k : Int) = (k : Int) := by rw [IntKind.wrap_i64]; omega
          have q0 : IntKind.i64.wrap (t : Int) = (t : Int) := by rw [IntKind.wrap_i64]; omega
          have q1 : IntKind.i64.wrap ((d1 : Int) + 1) = (d1 : Int) + 1 := by rw [IntKind.wrap_i64]; omega
          have q2 : IntKind.i64.wrap ((d2 : Int) + 1) = (d2 : Int) + 1 := by rw [IntKind.wrap_i64]; omega
          have q3 : IntKind.i64.wrap (d2 : Int) = (d2 : Int) := by rw [IntKind.wrap_i64]; omega
          have q4 : IntKind.i64.wrap ((d3 : Int) + 1) = (d3 : Int) + 1 := by rw [IntKind.wrap_i64]; omega
          obtain ⟨c, ec⟩ : ∃ c, c = cost a b k t := ⟨_, rfl⟩
          have hcl := cost_le a b k t
          rw [← ec] at hcl
          have EC : Hid (c = cost a b k t) := ec
          have q8 : IntKind.i64.wrap ((d2 : Int) + (c : Int)) = (d2 : Int) + (c : Int) := by rw [IntKind.wrap_i64]; omega
          clear ec
          -- the two runes are compared
          go_upto_region 17 with fail
          go_cut [59] (fun s59 wx => s59 = .bool (X == Y) ∧ ∃ n, wx = wr.drewN n)
          case first =>
            go_quiet (fail)
            go_wp2_with fail
            go_meet
            case rel => exact ⟨rfl, nq, rfl⟩
          obtain ⟨rfl, n1, hw1e⟩ := hcut
          obtain ⟨wq, rfl⟩ : ∃ wq, wq = wc := ⟨_, rfl⟩
          have LZq : LineTo wq z b.length (t + 1) (D a b (k + 1)) := by rw [hw1e]; exact LZ
          have LYq : IsLine wq y b.length (D a b k) := by rw [hw1e]; exact LY
          have LXq : 0 < k → IsLine wq x b.length (D a b (k - 1)) := by rw [hw1e]; exact LX
          have LX0q : LineTo wq x b.length 0 (fun _ => 0) := by rw [hw1e]; exact LX0
          have hbq : Below w.heap.size w wq := by rw [hw1e]; exact below_drewN hb _
          have hy1q : wq.cell? ⟨y, t + 1, none⟩ = some (.int .i64 (d1 : Nat)) := by rw [hw1e]; exact hy1
          have hy0q : wq.cell? ⟨y, t, none⟩ = some (.int .i64 (d2 : Nat)) := by rw [hw1e]; exact hy0
          have hz0q : wq.cell? ⟨z, t, none⟩ = some (.int .i64 (d3 : Nat)) := by rw [hw1e]; exact hz0
          have hz1q : wq.cell? ⟨z, t + 1, none⟩ = some v := by rw [hw1e]; exact hz1
          have hzfq : wq.frozen? ⟨z, t + 1, none⟩ = false := by rw [hw1e]; exact hzf
          clear hw1e LZ LY LX LX0 hb hy1 hy0 hz0 hz1 hzf
          -- the cost
          go_upto_if 59 with fail
          go_cut [11] (fun s11 wx => s11 = .int .i64 (c : Nat) ∧ wq = wx)
          case first =>
            cases hxy : (X == Y) with
            | true =>
              have hc0 : c = 0 := by rw [EC.out]; unfold cost; rw [← EX.out, ← EY.out, hxy]; rfl
              subst hc0
              go_wp2
              go_meet
              case rel => exact ⟨rfl, rfl⟩
            | false =>
              have hc0 : c = 1 := by rw [EC.out]; unfold cost; rw [← EX.out, ← EY.out, hxy]; rfl
              subst hc0
              go_wp2
              go_meet
              case rel => exact ⟨rfl, rfl⟩
          obtain ⟨rfl, rfl⟩ := hcut
          -- the least of the three plain edits
          go_upto_region 19 with fail
          go_still_tail 22, (by kernel_rfl)
          go_upto_region 20 with fail
          generalize hw2 : (wq.setCell ⟨z, t + 1, none⟩ (.int .i64 (mn3 ((d1 : Int) + 1) ((d3 : Int) + 1) ((d2 : Int) + (c : Int))))).drew = w2
          have hb2 : Below w.heap.size w w2 := by rw [← hw2]; exact (hbq.setCell (by simpa using hz) _).drew
          have LY2 : IsLine w2 y b.length (D a b k) := by rw [← hw2]; exact LYq.other nyz _
          have LX2 : 0 < k → IsLine w2 x b.length (D a b (k - 1)) := by rw [← hw2]; exact fun h => (LXq h).other nxz _
          have LX02 : LineTo w2 x b.length 0 (fun _ => 0) := by rw [← hw2]; exact LX0q.other nxz _
          have LZ2 : LineTo w2 z b.length (t + 1) (D a b (k + 1)) := by rw [← hw2]; exact LZq.scratch (by omega) _
          obtain ⟨M, hM⟩ : ∃ M, M = mn3 ((d1 : Int) + 1) ((d3 : Int) + 1) ((d2 : Int) + (c : Int)) := ⟨_, rfl⟩
          have LZ2' : swapB a b k t = false → LineTo w2 z b.length (t + 2) (D a b (k + 1)) := fun hs => by
            rw [← hw2]
            exact LZq.put (by omega) _ (fin_plain E1.out E2.out E3.out EC.out.symm hs)
          have hzz : w2.cell? ⟨z, t + 1, none⟩ = some (.int .i64 M) := by rw [← hw2, hM]; exact World.cell?_setCell_same _ _ _ hz1q
          have HM : Hid (M = mn3 ((d1 : Int) + 1) ((d3 : Int) + 1) ((d2 : Int) + (c : Int))) := hM
          have hcA2 := cell_later hb2 (hAc' k hlt)
          have hcB2 := cell_later hb2 (hBc' t htl)
          rw [← EX.out] at hcA2
          rw [← EY.out] at hcB2
          clear hM hw2 hbq LZq LYq LXq LX0q hy1q hy0q hz0q hz1q hzfq
          -- do two neighbours stand the other way round?
          go_cut [113] (fun s113 wx => s113 = .bool (swapB a b k t) ∧ ∃ n, wx = w2.drewN n)
          case first =>
            clear LY2 LX2 LX02 LZ2 LZ2' hzz
            by_cases hk0 : 0 < k
            · have g1 : (1 : Int) < (k : Int) + 1 := by omega
              obtain ⟨k1, ek1⟩ : ∃ k1, k = k1 + 1 := ⟨k - 1, by omega⟩
              have EK1 : Hid (k = k1 + 1) := ek1
              have r1 : IntKind.i64.wrap ((k : Int) + 1 - 2) = (k1 : Int) := by rw [IntKind.wrap_i64]; omega
              have r2 : (k1 : Int) < (a.length : Int) := by omega
              have r3 : k1 < a.length := by omega
              clear ek1
              by_cases ht0 : 0 < t
              · have g2 : (1 : Int) < (t : Int) + 1 := by omega
                obtain ⟨t1, et1⟩ : ∃ t1, t = t1 + 1 := ⟨t - 1, by omega⟩
                have ET1 : Hid (t = t1 + 1) := et1
                have r6 : IntKind.i64.wrap ((t : Int) + 1 - 2) = (t1 : Int) := by rw [IntKind.wrap_i64]; omega
                have r7 : (t1 : Int) < (b.length : Int) := by omega
                have r8 : t1 < b.length := by omega
                clear et1
                obtain ⟨Pv, eP⟩ : ∃ P, P = b.getD t1 0 := ⟨_, rfl⟩
                obtain ⟨Qv, eQ⟩ : ∃ Q, Q = a.getD k1 0 := ⟨_, rfl⟩
                have hsw : Hid (swapB a b k t = ((X == Pv) && (Qv == Y))) := by
                  show swapB a b k t = _
                  have h1 : t - 1 = t1 := by have := ET1.out; omega
                  have h2 : k - 1 = k1 := by have := EK1.out; omega
                  unfold swapB
                  rw [h1, h2, ← eP, ← eQ, ← EX.out, ← EY.out]
                  simp [hk0, ht0]
                have hcP2 := cell_later hb2 (hBc' t1 r8)
                have hcQ2 := cell_later hb2 (hAc' k1 r3)
                rw [← eP] at hcP2
                rw [← eQ] at hcQ2
                clear eP eQ hAc' hBc'
                cases hxp : (X == Pv) with
                | false =>
                  have HS : Hid (swapB a b k t = false) := by show swapB a b k t = false; rw [hsw.out, hxp]; rfl
                  go_quiet (fail)
                  go_wp2_with fail
                  go_meet
                  case rel => exact ⟨by rw [HS.out], nq, rfl⟩
                | true =>
                  cases hqy : (Qv == Y) with
                  | false =>
                    have HS : Hid (swapB a b k t = false) := by show swapB a b k t = false; rw [hsw.out, hxp, hqy]; rfl
                    go_quiet (fail)
                    go_wp2_with fail
                    go_meet
                    case rel => exact ⟨by rw [HS.out], nq, rfl⟩
                  | true =>
                    have HS : Hid (swapB a b k t = true) := by show swapB a b k t = true; rw [hsw.out, hxp, hqy]; rfl
                    go_quiet (fail)
                    go_wp2_with fail
                    go_meet
                    case rel => exact ⟨by rw [HS.out], nq, rfl⟩
              · have HS : Hid (swapB a b k t = false) := by show swapB a b k t = false; unfold swapB; simp [ht0]
                have hg2 : decide ((1 : Int) < (t : Int) + 1) = false := by simp; omega
                clear hAc' hBc'
                go_quiet (fail)
                go_wp2_with fail
                go_meet
                case rel => exact ⟨by rw [HS.out], nq, rfl⟩
            · have hg : decide ((1 : Int) < (k : Int) + 1) = false := by simp; omega
              have HS : Hid (swapB a b k t = false) := by show swapB a b k t = false; unfold swapB; simp [hk0]
              clear hAc' hBc'
              go_quiet (fail)
              go_wp2_with fail
              go_meet
              case rel => exact ⟨by rw [HS.out], nq, rfl⟩
          obtain ⟨rfl, n2, hw2e⟩ := hcut
          obtain ⟨w3, rfl⟩ : ∃ w3, w3 = wc := ⟨_, rfl⟩
          have hb3 : Below w.heap.size w w3 := by rw [hw2e]; exact below_drewN hb2 _
          have LY3 : IsLine w3 y b.length (D a b k) := by rw [hw2e]; exact LY2
          have LX3 : 0 < k → IsLine w3 x b.length (D a b (k - 1)) := by rw [hw2e]; exact LX2
          have LX03 : LineTo w3 x b.length 0 (fun _ => 0) := by rw [hw2e]; exact LX02
          have LZ3 : LineTo w3 z b.length (t + 1) (D a b (k + 1)) := by rw [hw2e]; exact LZ2
          have LZ3' : swapB a b k t = false → LineTo w3 z b.length (t + 2) (D a b (k + 1)) := by rw [hw2e]; exact LZ2'
          have hzz3 : w3.cell? ⟨z, t + 1, none⟩ = some (.int .i64 M) := by rw [hw2e]; exact hzz
          have hzf3 := LZ3.frozen (t + 1)
          clear hw2e LY2 LX2 LX02 LZ2 LZ2' hzz hb2 hcA2 hcB2 hAc' hBc'
          cases hs : swapB a b k t with
          | false =>
            have LZ4 := LZ3' hs
            clear LZ3 LZ3' hs
            go_wp2
            go_roundw
            case rel => exact ⟨t + 1, by omega, by go_num, LZ4, LY3, LX3, LX03, hb3⟩
            case measure => simp [intOf]; omega
          | true =>
            obtain ⟨hk0, ht0⟩ := swapB_pos hs
            obtain ⟨t1, et1⟩ : ∃ t1, t = t1 + 1 := ⟨t - 1, by omega⟩
            have r6 : IntKind.i64.wrap ((t : Int) + 1 - 2) = (t1 : Int) := by rw [IntKind.wrap_i64]; omega
            have r9 : (t1 : Int) < (b.length : Int) + 1 := by omega
            obtain ⟨d4, e4⟩ : ∃ d, d = D a b (k - 1) (t - 1) := ⟨_, rfl⟩
            have hD4 := D_le a b (k - 1) (t - 1)
            rw [← e4] at hD4
            have q6 : IntKind.i64.wrap ((d4 : Int) + 1) = (d4 : Int) + 1 := by rw [IntKind.wrap_i64]; omega
            have hx43 : w3.cell? ⟨x, t1, none⟩ = some (.int .i64 (d4 : Nat)) := by rw [(LX3 hk0).cell t1 (by omega), e4, show t - 1 = t1 by omega]
            have HF : Hid (mn2 M ((d4 : Int) + 1) = ((D a b (k + 1) (t + 1) : Nat) : Int)) := by
              show mn2 M _ = _
              rw [HM.out]
              exact fin_swap E1.out E2.out E3.out e4 EC.out.symm hs
            clear et1 e4 hD4 LZ3' hs
            go_upto_region 21 with fail
            go_still_tail 14, (by kernel_rfl)
            go_wp2
            go_roundw
            case rel => exact ⟨t + 1, by omega, by go_num, LZ3.put (by omega) _ HF.out, LY3.other nyz _, fun h => (LX3 h).other nxz _, LX03.other nxz _, (hb3.setCell (by simpa using hz) _).drew⟩
            case measure => simp [intOf]; omega
        · have hlf : ¬ (t : Int) + 1 ≤ (b.length : Int) := by omega
          have LZF := LZ.full (by omega)
          go_wp2
          go_roundw
          case rel => exact ⟨k + 1, y, z, x, by omega, rfl, rfl, rfl, by go_num, hy, hz, hx, nyz, Ne.symm nxy, Ne.symm nxz, LZF, fun _ => LY, LY.to, LX0, hb⟩
          case measure => simp [intOf]; omega
    · have hle : ¬ (k : Int) + 1 ≤ (a.length : Int) := by omega
      obtain rfl : k = a.length := by omega
      have hcy := LY.cell b.length (by omega)
      have i1 : (b.length : Int) < (b.length : Int) + 1 := by omega
      clear hA hB LX LX0 LZ
      go_wp2
      go_ret
      exact ⟨rfl, hb⟩
end Go.Proofs.Qxb6619225a
