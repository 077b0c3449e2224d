/-
  byteOfThreeE1 and isLastBytesE1: the first is the j-th byte of the three lists laid end to end; the second says true where the first list is the last bytes of the other three.
-/
import Derived.Test.Qxb6618377aBase
import Derived.Deep.QuietTactic
import Derived.BigQuiet
namespace Go.Proofs.Qxb6618377a
open Go.RowKit Mem

theorem getD3_a (za zb zc : List Int) (j : Nat) (h : j < za.length) : (za ++ zb ++ zc).getD j 0 = za.getD j 0 := by
  simp only [List.getD_eq_getElem?_getD]
  rw [List.append_assoc, List.getElem?_append_left h]
theorem getD3_b (za zb zc : List Int) (j : Nat) (h : j < zb.length) : (za ++ zb ++ zc).getD (za.length + j) 0 = zb.getD j 0 := by
  simp only [List.getD_eq_getElem?_getD]
  rw [List.append_assoc, List.getElem?_append_right (by omega), Nat.add_sub_cancel_left, List.getElem?_append_left h]
theorem getD3_c (za zb zc : List Int) (j : Nat) : (za ++ zb ++ zc).getD (za.length + zb.length + j) 0 = zc.getD j 0 := by
  simp only [List.getD_eq_getElem?_getD]
  rw [List.getElem?_append_right (by simp)]
  simp

theorem ret_u8 {a b : Int} (h : a = b) : Ending.returned (.int .u8 a) = .returned (.int .u8 b) := by rw [h]

set_option maxHeartbeats 400000 in
theorem byteOf_any (a b c : Option Addr) (la lb lc ca cb cc j : Nat) (za zb zc : List Int) (w : World) (ha : Rd w a la za) (hb : Rd w b lb zb) (hc : Rd w c lc zc) (hj : j < la + lb + lc)
    (h1 : la ≤ 65536) (h2 : lb ≤ 65536) (h3 : lc ≤ 65536) :
    Calls Try.prog 9 #[.slice a la ca, .slice b lb cb, .slice c lc cc, .int .i64 j] w fun e w' => e = .returned (.int .u8 ((za ++ zb ++ zc).getD j 0)) ∧ w' = w := by
  obtain ⟨rfl, ha⟩ := ha
  obtain ⟨rfl, hb⟩ := hb
  obtain ⟨rfl, hc⟩ := hc
  by_cases hlt : j < za.length
  · obtain ⟨g, off, rfl, hcell⟩ := ha (by omega)
    have hcj := hcell j hlt
    clear ha hb hc hcell
    go_enter Try.func9, Try.ntmps9
    go_wp2
    go_ret
    exact ⟨ret_u8 (by rw [getD3_a _ _ _ _ hlt]; simp [hlt]), rfl⟩
  · obtain ⟨j', rfl⟩ : ∃ j', j = za.length + j' := ⟨j - za.length, by omega⟩
    by_cases hlt2 : j' < zb.length
    · obtain ⟨g, off, rfl, hcell⟩ := hb (by omega)
      have hcj := hcell j' hlt2
      clear ha hb hc hcell
      have e1 : ((za.length + j' : Nat) : Int) = (za.length : Int) + (j' : Int) := by omega
      rw [e1]
      go_enter Try.func9, Try.ntmps9
      go_wp2
      go_ret
      exact ⟨ret_u8 (by rw [getD3_b _ _ _ _ hlt2]; simp [hlt2]), rfl⟩
    · obtain ⟨j'', rfl⟩ : ∃ j'', j' = zb.length + j'' := ⟨j' - zb.length, by omega⟩
      obtain ⟨g, off, rfl, hcell⟩ := hc (by omega)
      have hlt3 : j'' < zc.length := by omega
      have hcj := hcell j'' hlt3
      clear ha hb hc hcell
      have e1 : ((za.length + (zb.length + j'') : Nat) : Int) = (za.length : Int) + ((zb.length : Int) + (j'' : Int)) := by omega
      rw [e1]
      go_enter Try.func9, Try.ntmps9
      go_wp2
      go_ret
      exact ⟨ret_u8 (by rw [← Nat.add_assoc, getD3_c]; simp [hlt3]), rfl⟩

theorem Rd.drewN {w : World} {a : Option Addr} {len : Nat} {zs : List Int} (h : Rd w a len zs) (n : Nat) : Rd (w.drewN n) a len zs := h

def lastN (l : List Int) : List Int := l.drop (l.length - 4096)

theorem lastN_length (l : List Int) : (lastN l).length = min l.length 4096 := by simp [lastN]; omega
theorem lastN_getD (l : List Int) (i : Nat) : (lastN l).getD i 0 = l.getD (l.length - 4096 + i) 0 := by simp [lastN, List.getD_eq_getElem?_getD]

theorem byteOf_int (a b c : Option Addr) (la lb lc ca cb cc : Nat) (J : Int) (j : Nat) (za zb zc : List Int) (w : World) (ha : Rd w a la za) (hb : Rd w b lb zb) (hc : Rd w c lc zc) (hJ : J = j) (hj : j < la + lb + lc)
    (h1 : la ≤ 65536) (h2 : lb ≤ 65536) (h3 : lc ≤ 65536) (x : Int) (hx : Hid ((za ++ zb ++ zc).getD j 0 = x)) :
    Calls Try.prog 9 #[.slice a la ca, .slice b lb cb, .slice c lc cc, .int .i64 J] w fun e w' => e = .returned (.int .u8 x) ∧ w' = w := by
  subst hJ; rw [← hx.out]; exact byteOf_any a b c la lb lc ca cb cc j za zb zc w ha hb hc hj h1 h2 h3

set_option maxRecDepth 100000 in
set_option maxHeartbeats 800000 in
theorem isLast_true (g a b c : Option Addr) (lg la lb lc cg ca cb cc : Nat) (za zb zc : List Int) (w : World) (hg : Rd w g lg (lastN (za ++ zb ++ zc))) (ha : Rd w a la za) (hb : Rd w b lb zb) (hc : Rd w c lc zc)
    (h1 : la ≤ 65536) (h2 : lb ≤ 65536) (h3 : lc ≤ 65536) :
    Calls Try.prog 7 #[.slice g lg cg, .slice a la ca, .slice b lb cb, .slice c lc cc] w fun e w' => e = .returned (.bool true) ∧ ∃ n, w' = w.drewN n := by
  have hL : (za ++ zb ++ zc).length = la + lb + lc := by simp [ha.1, hb.1, hc.1]; omega
  have hgl : lg = min (la + lb + lc) 4096 := by rw [← hg.1, lastN_length, hL]
  obtain ⟨hgl0, hgc⟩ := hg
  by_cases hbig : 4096 < la + lb + lc
  · have e0 : lg ≤ 4096 := by omega
    have e1 : 4096 ≤ lg := by omega
    clear hgl0 hgl
    go_enter Try.func7, Try.ntmps7
    go_wp2
    go_loopw [11] (fun i wr => ∃ (k : Nat), k ≤ lg ∧ i = .int .i64 k ∧ Hid (∃ n, wr = w.drewN n)) (fun i _ => lg - (intOf i).toNat)
    case atStart => exact ⟨0, by omega, rfl, 0, rfl⟩
    case round =>
      obtain ⟨k, hk, rfl, hn⟩ := hrel
      have ha' : Rd wr a la za := by obtain ⟨n, rfl⟩ := hn.out; exact ha
      have hb' : Rd wr b lb zb := by obtain ⟨n, rfl⟩ := hn.out; exact hb
      have hc' : Rd wr c lc zc := by obtain ⟨n, rfl⟩ := hn.out; exact hc
      by_cases hlt : k < lg
      · obtain ⟨gb, off, rfl, hcell⟩ := hgc (by omega)
        have hcj : wr.cell? ⟨gb, off + k, none⟩ = some (.int .u8 ((lastN (za ++ zb ++ zc)).getD k 0)) := by obtain ⟨n, rfl⟩ := hn.out; exact hcell k hlt
        rw [lastN_getD, hL] at hcj
        obtain ⟨x, hx⟩ : ∃ x, x = (za ++ zb ++ zc).getD (la + lb + lc - 4096 + k) 0 := ⟨_, rfl⟩
        have HX : Hid ((za ++ zb ++ zc).getD (la + lb + lc - 4096 + k) 0 = x) := hx.symm
        rw [← hx] at hcj
        clear hx hcell hgc hL
        go_wp2
        go_quiet ((go_at_call 9; exact Calls.quiet_of_same (byteOf_int a b c la lb lc ca cb cc _ (la + lb + lc - 4096 + k) za zb zc _ (ha'.drewN _) (hb'.drewN _) (hc'.drewN _) (by first | omega | (simp only [IntKind.wrap_i64]; omega)) (by omega) h1 h2 h3 x HX)))
        go_wp2
        go_roundw
        case rel => exact ⟨k + 1, by omega, by go_num, by obtain ⟨n, rfl⟩ := hn.out; exact ⟨n + nq, World.drewN_drewN _ _ _⟩⟩
        case measure => simp [intOf]; omega
      · go_wp2
        go_ret
        exact ⟨rfl, hn.out⟩
  · have e0 : lg ≤ la + lb + lc := by omega
    have e1 : la + lb + lc ≤ lg := by omega
    clear hgl0 hgl
    go_enter Try.func7, Try.ntmps7
    go_wp2
    go_loopw [11] (fun i wr => ∃ (k : Nat), k ≤ lg ∧ i = .int .i64 k ∧ Hid (∃ n, wr = w.drewN n)) (fun i _ => lg - (intOf i).toNat)
    case atStart => exact ⟨0, by omega, rfl, 0, rfl⟩
    case round =>
      obtain ⟨k, hk, rfl, hn⟩ := hrel
      have ha' : Rd wr a la za := by obtain ⟨n, rfl⟩ := hn.out; exact ha
      have hb' : Rd wr b lb zb := by obtain ⟨n, rfl⟩ := hn.out; exact hb
      have hc' : Rd wr c lc zc := by obtain ⟨n, rfl⟩ := hn.out; exact hc
      by_cases hlt : k < lg
      · obtain ⟨gb, off, rfl, hcell⟩ := hgc (by omega)
        have hcj : wr.cell? ⟨gb, off + k, none⟩ = some (.int .u8 ((lastN (za ++ zb ++ zc)).getD k 0)) := by obtain ⟨n, rfl⟩ := hn.out; exact hcell k hlt
        rw [lastN_getD, hL] at hcj
        obtain ⟨x, hx⟩ : ∃ x, x = (za ++ zb ++ zc).getD (la + lb + lc - 4096 + k) 0 := ⟨_, rfl⟩
        have HX : Hid ((za ++ zb ++ zc).getD (la + lb + lc - 4096 + k) 0 = x) := hx.symm
        rw [← hx] at hcj
        clear hx hcell hgc hL
        go_wp2
        go_quiet ((go_at_call 9; exact Calls.quiet_of_same (byteOf_int a b c la lb lc ca cb cc _ (la + lb + lc - 4096 + k) za zb zc _ (ha'.drewN _) (hb'.drewN _) (hc'.drewN _) (by first | omega | (simp only [IntKind.wrap_i64]; omega)) (by omega) h1 h2 h3 x HX)))
        go_wp2
        go_roundw
        case rel => exact ⟨k + 1, by omega, by go_num, by obtain ⟨n, rfl⟩ := hn.out; exact ⟨n + nq, World.drewN_drewN _ _ _⟩⟩
        case measure => simp [intOf]; omega
      · go_wp2
        go_ret
        exact ⟨rfl, hn.out⟩
end Go.Proofs.Qxb6618377a
