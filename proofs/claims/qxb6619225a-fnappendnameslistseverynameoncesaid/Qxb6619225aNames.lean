/-
  The trie that buildNameTree makes: which names it holds, in the order of its slots; what keeps it.
-/
import Derived.Test.Qxb6619225aLies
namespace Go.Proofs.Qxb6619225a
set_option linter.unusedVariables false
open Go.RowKit Mem

/-- The slots' cells xs: slot i holds the names Ls[i]: one name, or those of a node. -/
def Kids (N : Option Addr → List Value → Prop) (xs : List Value) (Ls : List (List Value)) : Prop :=
  ∀ i, i < Ls.length → ∃ Li x q, Ls[i]? = some Li ∧ xs[i * 2]? = some (.pointer x) ∧ xs[i * 2 + 1]? = some (.pointer q) ∧ ((x ≠ none ∧ Li = [.pointer x]) ∨ (x = none ∧ N q Li))

/-- The trie at p holds the names L; its blocks are among ok. -/
def Names (w : World) (ok : Nat → Prop) : Nat → Option Addr → List Value → Prop
  | 0, _, _ => False
  | n + 1, p, L => (p = none ∧ L = []) ∨ ∃ g s xs Ls, p = some ⟨g, 0, none⟩ ∧ ok g ∧ Arr w g 65 (nodeCells s) ∧ OwnW w 0 67 2 s Ls.length xs ∧ (∀ r, s.ownBlock = some r → ok r) ∧ L = Ls.flatten ∧ Ls.length ≤ 100000 ∧ Kids (Names w ok n) xs Ls

theorem Kids.imp {N N' : Option Addr → List Value → Prop} {xs : List Value} {Ls : List (List Value)} (h : Kids N xs Ls) (hN : ∀ q L, N q L → N' q L) : Kids N' xs Ls := fun i hi => by
  obtain ⟨Li, x, q, e1, e2, e3, e4⟩ := h i hi
  exact ⟨Li, x, q, e1, e2, e3, e4.imp id (fun ⟨a, b⟩ => ⟨a, hN q Li b⟩)⟩

theorem Kids.nil (N : Option Addr → List Value → Prop) : Kids N [] [] := fun i hi => absurd hi (by simp)

theorem Kids.snoc {N : Option Addr → List Value → Prop} {xs : List Value} {Ls : List (List Value)} (h : Kids N xs Ls) (hl : xs.length = Ls.length * 2) (Li : List Value) (x q : Option Addr) (hx : (x ≠ none ∧ Li = [.pointer x]) ∨ (x = none ∧ N q Li)) :
    Kids N (xs ++ [.pointer x, .pointer q]) (Ls ++ [Li]) := fun i hi => by
  simp at hi
  by_cases e : i < Ls.length
  · obtain ⟨Lj, y, r, e1, e2, e3, e4⟩ := h i e
    exact ⟨Lj, y, r, by rw [List.getElem?_append_left e]; exact e1, by rw [List.getElem?_append_left (by omega)]; exact e2, by rw [List.getElem?_append_left (by omega)]; exact e3, e4⟩
  · obtain rfl : i = Ls.length := by omega
    refine ⟨Li, x, q, by simp, ?_, ?_, hx⟩
    · rw [List.getElem?_append_right (by omega), hl]; simp
    · rw [List.getElem?_append_right (by omega), hl, show Ls.length * 2 + 1 - Ls.length * 2 = 1 by omega]; rfl

theorem Names.keep {S ok ok' : Nat → Prop} {w w' : World} (hF : Fr S w w') (hC : ∀ x e vs, Arr w x e vs → (e = 65 ∨ e = 67) → ok x → ¬ S x ∧ ok' x) : ∀ n p L, Names w ok n p L → Names w' ok' n p L
  | 0, _, _, h => False.elim h
  | n + 1, p, L, h => by
    rcases h with h | ⟨g, s, xs, Ls, h1, h2, h3, h4, h5, h6, h7, h8⟩
    · exact .inl h
    · have k1 := hC g 65 _ h3 (.inl rfl) h2
      have k2 : ∀ r, s.ownBlock = some r → ¬ S r ∧ ok' r := fun r hr => by
        obtain ⟨_, vs, ha⟩ := h4.arr hr
        exact hC r 67 vs ha (.inr rfl) (h5 r hr)
      exact .inr ⟨g, s, xs, Ls, h1, k1.2, hF.arr h3 k1.1, h4.fr hF (fun r hr => (k2 r hr).1), fun r hr => (k2 r hr).2, h6, h7, h8.imp (fun q L => Names.keep hF hC n q L)⟩

/-- The names' blocks hold their places. -/
def Places (w : World) (K : Nat) (ns : List Value) : Prop := ∀ i, i < ns.length → ∃ x vs, ns[i]? = some (.pointer (some ⟨x, 0, none⟩)) ∧ Arr w x 55 vs ∧ vs[5]? = some (.int .i64 ((K + i : Nat) : Int))

theorem Places.keep {S : Nat → Prop} {w w' : World} {K : Nat} {ns : List Value} (h : Places w K ns) (hF : Fr S w w') (hS : ∀ x vs, S x → ¬ Arr w x 55 vs) : Places w' K ns := fun i hi => by
  obtain ⟨x, vs, e1, e2, e3⟩ := h i hi
  exact ⟨x, vs, e1, hF.arr e2 (fun hs => hS x vs hs e2), e3⟩

theorem Places.nil (w : World) (K : Nat) : Places w K [] := fun i hi => absurd hi (by simp)

theorem Places.append {w : World} {K : Nat} {ns ms : List Value} (h : Places w K ns) (k : Places w (K + ns.length) ms) : Places w K (ns ++ ms) := fun i hi => by
  by_cases e : i < ns.length
  · obtain ⟨x, vs, e1, e2, e3⟩ := h i e
    exact ⟨x, vs, by rw [List.getElem?_append_left e]; exact e1, e2, e3⟩
  · obtain ⟨x, vs, e1, e2, e3⟩ := k (i - ns.length) (by simp at hi; omega)
    refine ⟨x, vs, by rw [List.getElem?_append_right (by omega)]; exact e1, e2, ?_⟩
    rw [e3]
    congr 2
    omega

theorem Places.one {w : World} {K x : Nat} {vs : List Value} (h : Arr w x 55 vs) (hp : vs[5]? = some (.int .i64 (K : Int))) : Places w K [.pointer (some ⟨x, 0, none⟩)] := fun i hi => by
  obtain rfl : i = 0 := by simpa using hi
  exact ⟨x, vs, rfl, h, hp⟩

/-- The list of names made so far: its variable gm, its row. -/
structure Made (w wr : World) (B gm K : Nat) (m : Value) (ms : List Value) (m' : Value) (ns : List Value) : Prop where
  var : Arr wr gm 34 [m']
  own : OwnW wr B 35 1 m' (K + ns.length) (ms ++ ns)
  places : Places wr K ns
  fr : Fr (fun x => x = gm ∨ m.ownBlock = some x) w wr
  track : m'.ownBlock = m.ownBlock ∨ ∀ k, m'.ownBlock = some k → w.heap.size ≤ k

/-- What the node under construction holds. -/
structure Node (w wr : World) (n g : Nat) (s : Value) (xs : List Value) (Ls : List (List Value)) : Prop where
  var : Arr wr g 65 (nodeCells s)
  own : OwnW wr w.heap.size 67 2 s Ls.length xs
  kids : Kids (Names wr (fun x => w.heap.size ≤ x ∧ x ≠ g ∧ s.ownBlock ≠ some x) n) xs Ls

theorem Made.keep {S : Nat → Prop} {w wr wr' : World} {B gm K : Nat} {m : Value} {ms : List Value} {m' : Value} {ns : List Value} (h : Made w wr B gm K m ms m' ns) (hF : Fr S wr wr') (hS : ∀ x e vs, S x → Arr wr x e vs → w.heap.size ≤ x ∧ e ≠ 34 ∧ e ≠ 35 ∧ e ≠ 55) (hS2 : ∀ x, S x → w.heap.size ≤ x) : Made w wr' B gm K m ms m' ns :=
  ⟨hF.arr h.var (fun hs => (hS gm 34 _ hs h.var).2.1 rfl), h.own.fr hF (fun k hk hs => by obtain ⟨_, vs, ha⟩ := h.own.arr hk; exact (hS k 35 vs hs ha).2.2.1 rfl), h.places.keep hF (fun x vs hs ha => (hS x 55 vs hs ha).2.2.2 rfl),
    h.fr.trans hF (fun x hx hs => absurd (hS2 x hs) (by omega)), h.track⟩

theorem Node.keep {S : Nat → Prop} {w wr wr' : World} {n g : Nat} {s : Value} {xs : List Value} {Ls : List (List Value)} (h : Node w wr n g s xs Ls) (hF : Fr S wr wr') (hS : ∀ x e vs, S x → Arr wr x e vs → e ≠ 65 ∧ e ≠ 67) : Node w wr' n g s xs Ls :=
  ⟨hF.arr h.var (fun hs => (hS g 65 _ hs h.var).1 rfl), h.own.fr hF (fun k hk hs => by obtain ⟨_, vs, ha⟩ := h.own.arr hk; exact (hS k 67 vs hs ha).2 rfl),
    h.kids.imp (fun q L => Names.keep hF (fun x e vs ha he hok => ⟨fun hs => he.elim (hS x e vs hs ha).1 (hS x e vs hs ha).2, hok⟩) n q L)⟩

/-- A slot is added. -/
theorem Node.add {w wr wr' : World} {n g : Nat} {s s' : Value} {xs : List Value} {Ls : List (List Value)} (h : Node w wr n g s xs Ls) (hw : w.heap.size ≤ wr.heap.size) (hF : Fr (fun x => x = g ∨ s.ownBlock = some x) wr wr') (hV : Arr wr' g 65 (nodeCells s')) (Li : List Value) (x q : Option Addr)
    (hO : OwnW wr' w.heap.size 67 2 s' (Ls.length + 1) (xs ++ [.pointer x, .pointer q])) (ht : s'.ownBlock = s.ownBlock ∨ ∀ k, s'.ownBlock = some k → wr.heap.size ≤ k)
    (hx : (x ≠ none ∧ Li = [.pointer x]) ∨ (x = none ∧ Names wr (fun x => w.heap.size ≤ x ∧ x ≠ g ∧ s.ownBlock ≠ some x) n q Li)) : Node w wr' n g s' (xs ++ [.pointer x, .pointer q]) (Ls ++ [Li]) := by
  have hk : ∀ q L, Names wr (fun x => w.heap.size ≤ x ∧ x ≠ g ∧ s.ownBlock ≠ some x) n q L → Names wr' (fun x => w.heap.size ≤ x ∧ x ≠ g ∧ s'.ownBlock ≠ some x) n q L := fun q L => Names.keep hF (fun x e vs ha he hok => ⟨fun hs => by rcases hs with hs | hs; exact hok.2.1 hs; exact hok.2.2 hs, hok.1, hok.2.1, fun hs => by
      have := ha.lt
      rcases ht with ht | ht
      · exact hok.2.2 (by rw [← ht]; exact hs)
      · exact absurd (ht x hs) (by omega)⟩) n q L
  refine ⟨hV, by simpa using hO, (h.kids.imp hk).snoc h.own.1 Li x q (hx.imp id (fun ⟨a, b⟩ => ⟨a, hk q Li b⟩))⟩

/-- The node is whole. -/
theorem Node.names {w wr : World} {n g : Nat} {s : Value} {xs : List Value} {Ls : List (List Value)} (h : Node w wr n g s xs Ls) (hg : w.heap.size ≤ g) (hl : Ls.length ≤ 100000) : Names wr (fun x => w.heap.size ≤ x) (n + 1) (some ⟨g, 0, none⟩) Ls.flatten :=
  .inr ⟨g, s, xs, Ls, rfl, hg, h.var, h.own.mono (Nat.zero_le _), fun r hr => (h.own.arr hr).1, rfl, hl, h.kids.imp (fun q L => Names.keep (Fr.refl (fun _ => False) wr) (fun x e vs ha he hok => ⟨id, hok.1⟩) n q L)⟩
end Go.Proofs.Qxb6619225a
