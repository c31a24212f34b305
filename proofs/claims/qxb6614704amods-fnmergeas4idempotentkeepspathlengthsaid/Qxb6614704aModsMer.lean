/-
  The row that the merge builds, while it is being built.
-/
import Derived.Test.Qxb6614704aModsEnts
namespace Go.Proofs.Qxb6614704aMods
open Go.RowKit

/-- mv is the row of the entries R, in memory made since w3; what the entries point to lies in w3, not in the block ba -/
structure Mer (w3 : World) (ba : Nat) (wr : World) (mv : Value) (R : List Ent) : Prop where
  own : wr.ownsRow w3.heap.size 89 2 mv R.length (cellsOf R)
  good : ∀ e ∈ R, Good (sans w3 ba) e
  seq : ∀ e ∈ R, e.1 = 2 → e.2.2.2 = e.2.1.length
  below : Below w3.heap.size w3 wr
theorem Mer.start (w3 : World) (ba : Nat) : Mer w3 ba w3 (.slice none 0 0) [] := ⟨World.ownsRow_nil _ _ _ _, fun e h => (by cases h), fun e h => (by cases h), Below.refl _ _⟩
theorem Mer.row {w3 wr : World} {ba : Nat} {mv : Value} {R : List Ent} (h : Mer w3 ba wr mv R) : ∀ q, mv.ownBlock = some q → w3.heap.size ≤ q := by
  intro q hq
  rcases h.own.2 with ⟨e, _⟩ | ⟨g, cp, cur, e, hg', _⟩
  · rw [e] at hq; cases hq
  · rw [e] at hq; injection hq with hq; simp at hq; omega
/-- one entry more -/
theorem Mer.more {w3 wr w1 : World} {ba : Nat} {mv v' : Value} {R : List Ent} {o1 o2 : Obj} {e : Ent} (h : Mer w3 ba wr mv R) (hg : Good (sans w3 ba) e) (hs : e.1 = 2 → e.2.2.2 = e.2.1.length)
    (hown : w1.ownsRow w3.heap.size 89 2 v' (R.length + 1) (cellsOf R ++ [.int .u8 e.1, valOf e])) (hgrow : ((wr.alloc o1).alloc o2).grownBy w1 mv.ownBlock) : Mer w3 ba w1 v' (R ++ [e]) := by
  refine ⟨?_, fun x hx => ?_, fun x hx => ?_, ?_⟩
  · rw [cellsOf_append, List.length_append]
    exact hown
  · rcases List.mem_append.1 hx with hx | hx
    · exact h.good x hx
    · rw [List.mem_singleton.1 hx]; exact hg
  · rcases List.mem_append.1 hx with hx | hx
    · exact h.seq x hx
    · rw [List.mem_singleton.1 hx]; exact hs
  · have hsz := h.below.size
    exact ((h.below.alloc hsz o1).alloc (by simp; omega) o2).grown hgrow (by simp; omega) h.row
theorem Mer.own2 {w3 wr : World} {ba : Nat} {mv : Value} {R : List Ent} (h : Mer w3 ba wr mv R) (o1 o2 : Obj) : ((wr.alloc o1).alloc o2).ownsRow w3.heap.size 89 2 mv R.length (cellsOf R) := (h.own.alloc o1).alloc o2
theorem news2 (wr : World) (o1 : Obj) (a b : Value) : ∀ j u, [a, b][j]? = some u → ((wr.alloc o1).alloc (.cells #[a, b] 89)).cell? ((⟨wr.heap.size + 1, 0, none⟩ : Addr).add j) = some u := by
  intro j u hu
  have hb := heap_alloc_new (wr.alloc o1) (.cells #[a, b] 89)
  rw [World.size_alloc] at hb
  exact World.news_of_block (cs := #[a, b]) hb j u hu
theorem Mer.alloc {w3 wr : World} {ba : Nat} {mv : Value} {R : List Ent} (h : Mer w3 ba wr mv R) (o : Obj) : Mer w3 ba (wr.alloc o) mv R := ⟨h.own.alloc o, h.good, h.seq, h.below.alloc h.below.size o⟩
theorem keepC_drop (P : List Seg) (k i : Nat) (h : i < P.length) : keepC k (P.drop i) = if k = 0 then [] else if tyL P i = 2 then (2, (zsL P i).take k) :: keepC (k - min k (zsL P i).length) (P.drop (i + 1)) else if tyL P i = 1 then (tyL P i, zsL P i) :: keepC (k - 1) (P.drop (i + 1)) else (tyL P i, zsL P i) :: keepC k (P.drop (i + 1)) := by
  have e : P.getD i (0, []) = P[i] := by simp [List.getD, h]
  rw [List.drop_eq_getElem_cons h]
  unfold tyL zsL
  rw [e]
  rfl
theorem keep_next {P : List Seg} {k0 k k' i : Nat} {R : List Ent} {e : Ent} (hk : keepC k0 P = R.map segOf ++ keepC k (P.drop i)) (hd : keepC k (P.drop i) = segOf e :: keepC k' (P.drop (i + 1))) : keepC k0 P = (R ++ [e]).map segOf ++ keepC k' (P.drop (i + 1)) := by
  rw [hk, hd]; simp
theorem wrap64 (a b : Nat) (h : b ≤ a) (ha : a ≤ 9223372036854775807) : IntKind.i64.wrap ((a : Int) - (b : Int)) = ((a - b : Nat) : Int) := by
  simp [IntKind.wrap, IntKind.bits, IntKind.signed]
  omega
theorem AsnsF.take {w : World} {xo : Option Addr} {l : List Int} (h : AsnsF w xo l) (n : Nat) : AsnsF w xo (l.take n) := by
  rcases h with h | ⟨b, off, e, h⟩
  · exact .inl (by rw [List.length_take]; omega)
  · refine .inr ⟨b, off, e, fun j hj => ?_⟩
    have hj2 : j < n ∧ j < l.length := by simp at hj; omega
    rw [h j hj2.2]
    simp [nth, List.getD, hj2.1]
end Go.Proofs.Qxb6614704aMods
