/-
  What reads as a *NameTree is such a picture.
-/
import Derived.Test.Qxb6619225aLies
import Derived.ChangeArms
import Derived.ChangeShapes
import Derived.Deep.Slices
namespace Go.Proofs.Qxb6619225a
set_option linter.unusedVariables false
open Go.RowKit Mem Go.ChangeShapes Go.WideShapes

theorem Try.cells49 : Try.prog.cellsOf 49 = 1 := by kernel_rfl
theorem Try.cells47 : Try.prog.cellsOf 47 = 1 := by kernel_rfl
theorem Try.cells51 : Try.prog.cellsOf 51 = 3 := by kernel_rfl
theorem Try.cells4 : Try.prog.cellsOf 4 = 1 := by kernel_rfl
theorem Try.cells21 : Try.prog.cellsOf 21 = 1 := by kernel_rfl
theorem Try.cells31 : Try.prog.cellsOf 31 = 1 := by kernel_rfl

theorem Lies.succ {w : World} : ∀ n p c, Lies w n p c → Lies w (n + 1) p c
  | 0, _, _, h => False.elim h
  | n + 1, p, c, h => by
    rcases h with h | ⟨b, o, sa, len, cap, cs, h1, h2, h3, h4, h5, h6⟩
    · exact .inl h
    · refine .inr ⟨b, o, sa, len, cap, cs, h1, h2, h3, h4, h5, fun i hi => ?_⟩
      obtain ⟨pb, po, named, id, q, e, hs, g1, g2⟩ := h6 i hi
      exact ⟨pb, po, named, id, q, e, hs, g1, fun hn => by obtain ⟨ci, e1, e2⟩ := g2 hn; exact ⟨ci, e1, Lies.succ n q ci e2⟩⟩
theorem Lies.up {w : World} {n : Nat} {p : Option Addr} {c : Nat} (h : Lies w n p c) : ∀ k, Lies w (n + k) p c
  | 0 => h
  | k + 1 => Lies.succ _ _ _ (Lies.up h k)

theorem choose_list {Q : Nat → Nat → Prop} : ∀ len, (∀ i, i < len → ∃ c, Q i c) → ∃ cs : List Nat, cs.length = len ∧ ∀ i, i < len → ∃ c, cs[i]? = some c ∧ Q i c
  | 0, _ => ⟨[], rfl, fun i hi => absurd hi (by omega)⟩
  | len + 1, h => by
    obtain ⟨cs, hl, hc⟩ := choose_list len (fun i hi => h i (by omega))
    obtain ⟨c, hq⟩ := h len (by omega)
    refine ⟨cs ++ [c], by simp [hl], fun i hi => ?_⟩
    by_cases e : i < len
    · obtain ⟨d, e1, e2⟩ := hc i e
      exact ⟨d, by rw [List.getElem?_append_left (by omega)]; exact e1, e2⟩
    · obtain rfl : i = len := by omega
      exact ⟨c, by rw [List.getElem?_append_right (by omega), hl]; simp, hq⟩

theorem lies_open {H : Type} {enc : TypeId × Value → H} {w : World} {base : Nat} {spare : Nat → Bool} {held : Bool} : ∀ (fuel : Nat) (cs : List Value) (x : DataW H × List MemPlace), DataW.trod enc Try.prog w base spare held fuel 31 cs = some x →
    ∃ p c, cs = [.pointer p] ∧ Lies w (fuel + 1) p c := by
  intro fuel
  induction fuel using Nat.strongRecOn with
  | _ fuel ih =>
    intro cs x h
    rcases DataW.trod_pointer Try.underlying31 h with ⟨rfl, rfl⟩ | ⟨a, cs', y, m, rfl, rfl, rfl, hcells, hy⟩
    · exact ⟨none, 0, rfl, .inl ⟨rfl, rfl⟩⟩
    · rw [Try.cells49] at hcells
      obtain ⟨hb, hlen1, hcell⟩ := World.cells?_some hcells
      obtain ⟨xs, m1, rfl, _, hl, hxl, hf⟩ := DataW.trod_struct Try.underlying49 hy
      match xs, hxl, cs', hlen1 with
      | [y0], _, [v], _ =>
        have g0 : DataW.trod enc Try.prog w base spare held m1 47 [v] = some y0 := by simpa [Try.cells47] using hf 0 _ rfl
        obtain ⟨b, off, spot⟩ := a
        have h0 : w.cell? ((⟨b, off, spot⟩ : Addr).add 0) = some v := by simpa using hcell 0 (by omega)
        have hspot : spot = none := by simpa [Addr.add] using World.cell?_spot h0
        subst hspot
        rw [add_plain, Nat.add_zero] at h0
        rcases DataW.trod_slice Try.underlying47 g0 with ⟨e, _⟩ | ⟨sa, len, cap, elems, rest, m2, rfl, e, _, hsb, hle, hcap, hel, hx, _, _⟩
        · obtain rfl : v = .slice none 0 0 := by simpa using e
          exact ⟨some ⟨b, off, none⟩, 1, rfl, .inr ⟨b, off, none, 0, 0, [], rfl, h0, Nat.zero_le _, rfl, rfl, fun i hi => absurd hi (by omega)⟩⟩
        · obtain rfl : v = .slice (some sa) len cap := by simpa using e
          rw [Try.cells51] at hx
          have hsp : 0 < len → sa.spot = none := fun hpos => by
            have hx0 := hx 0 hpos
            rw [List.getElem?_eq_getElem (by omega)] at hx0
            obtain ⟨cs3, k1, _⟩ := Option.bind_eq_some_iff.1 hx0
            obtain ⟨_, hl3, hc3⟩ := World.cells?_some k1
            have h00 := hc3 0 (by omega)
            rw [List.getElem?_eq_getElem (by omega)] at h00
            have := World.cell?_spot h00
            simpa [Addr.add] using this
          have each : ∀ i, i < len → ∃ c, ∃ pb po named id q, some sa = some ⟨pb, po, none⟩ ∧ SlotAt w pb po i named id q ∧ (named = true → c = 0) ∧ (named = false → Lies w (m2 + 1 + 1 + 1) q c) := by
            intro i hi
            have hxi := hx i hi
            rw [List.getElem?_eq_getElem (by omega)] at hxi
            obtain ⟨cs3, k1, k2⟩ := Option.bind_eq_some_iff.1 hxi
            obtain ⟨_, hl3, hc3⟩ := World.cells?_some k1
            obtain ⟨zs, m3, rfl, _, _, hzl, hf3⟩ := DataW.trod_struct Try.underlying51 k2
            match zs, hzl, cs3, hl3 with
            | [z0, z1, z2], _, [v0, v1, v2], _ =>
              have t0 : DataW.trod enc Try.prog w base spare held m3 4 [v0] = some z0 := by simpa [Try.cells4] using hf3 0 _ rfl
              have t1 : DataW.trod enc Try.prog w base spare held m3 21 [v1] = some z1 := by simpa [Try.cells21] using hf3 1 _ rfl
              have t2 : DataW.trod enc Try.prog w base spare held m3 31 [v2] = some z2 := by simpa [Try.cells31] using hf3 2 _ rfl
              obtain ⟨named, e0, _⟩ := DataW.trod_bool Try.underlying4 t0
              obtain ⟨id, e1, _, _⟩ := DataW.trod_int Try.underlying21 t1
              obtain ⟨q, c, e2, hL⟩ := ih m3 (by omega) _ _ t2
              simp only [List.cons.injEq, and_true] at e0 e1 e2
              subst e0 e1 e2
              obtain ⟨pb, po, spot⟩ := sa
              have c0 : w.cell? (((⟨pb, po, spot⟩ : Addr).add (i * 3)).add 0) = some (.bool named) := by simpa using hc3 0 (by omega)
              have c1 : w.cell? (((⟨pb, po, spot⟩ : Addr).add (i * 3)).add 1) = some (.int .i32 id) := by simpa using hc3 1 (by omega)
              have c2 : w.cell? (((⟨pb, po, spot⟩ : Addr).add (i * 3)).add 2) = some (.pointer q) := by simpa using hc3 2 (by omega)
              have hspot : spot = none := hsp (by omega)
              subst hspot
              rw [add_plain, add_plain] at c0 c1 c2
              cases named with
              | true => exact ⟨0, pb, po, true, id, q, rfl, ⟨c0, c1, c2⟩, fun _ => rfl, fun h => by cases h⟩
              | false => exact ⟨c, pb, po, false, id, q, rfl, ⟨c0, c1, c2⟩, fun h => (by cases h), fun _ => by have := hL.up 3; exact this⟩
          obtain ⟨cs, hcl, hcs⟩ := choose_list len each
          refine ⟨some ⟨b, off, none⟩, 1 + len + cs.sum, rfl, .inr ⟨b, off, some sa, len, cap, cs, rfl, h0, by omega, rfl, hcl, fun i hi => ?_⟩⟩
          obtain ⟨c, e1, pb, po, named, id, q, g1, g2, g3, g4⟩ := hcs i hi
          exact ⟨pb, po, named, id, q, g1, g2, fun h => by rw [e1, g3 h], fun h => ⟨c, e1, g4 h⟩⟩
end Go.Proofs.Qxb6619225a
