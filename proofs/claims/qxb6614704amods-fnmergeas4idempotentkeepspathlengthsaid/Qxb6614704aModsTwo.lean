/-
  The two rows that the model builds.
-/
import Derived.Test.Qxb6614704aModsFlat
import Derived.Test.Qxb6614704aModsTail
namespace Go.Proofs.Qxb6614704aMods
open Go.RowKit

def typsOf (R : List Ent) : List Value := R.map (fun e => Value.int .u8 e.1)
def valsOf (R : List Ent) : List Value := R.map valOf
/-- W is as w but for the rows of tv and av -/
def But2 (w W : World) (tv av : Value) : Prop := ∀ k, k < w.heap.size → some k ≠ tv.ownBlock → some k ≠ av.ownBlock → W.heap[k]? = w.heap[k]?
structure Two (w0 : World) (wr : World) (tv av : Value) (T R : List Ent) : Prop where
  ot : wr.ownsRow w0.heap.size 5 1 tv T.length (typsOf T)
  oa : wr.ownsRow w0.heap.size 47 1 av R.length (valsOf R)
  ne : ∀ q, tv.ownBlock = some q → av.ownBlock ≠ some q
  good : ∀ e ∈ R, ∀ W : World, But2 wr W tv av → Good W e
  below : Below w0.heap.size w0 wr
theorem Two.start (w0 : World) : Two w0 w0 (.slice none 0 0) (.slice none 0 0) [] [] := ⟨World.ownsRow_nil _ _ _ _, World.ownsRow_nil _ _ _ _, fun q h => (by cases h), fun e h => (by cases h), Below.refl _ _⟩
theorem own_row {w : World} {base : Nat} {t : TypeId} {m : Value} {n : Nat} {xs : List Value} (h : w.ownsRow base t 1 m n xs) : ∀ q, m.ownBlock = some q → base ≤ q ∧ q < w.heap.size := h.lt
/-- a kind more -/
theorem Two.typ {w0 wr w1 : World} {tv av : Value} {T R : List Ent} {e : Ent} {o : Obj} {g n cap : Nat} (h : Two w0 wr tv av T R)
    (hown : w1.ownsRow w0.heap.size 5 1 (.slice (some ⟨g, 0, none⟩) n cap) (T.length + 1) (typsOf T ++ [.int .u8 e.1])) (hgrow : (wr.alloc o).grownBy w1 tv.ownBlock) (hat : tv.ownBlock = some g ∨ g = wr.heap.size + 1) (hn : n = T.length + 1) :
    Two w0 w1 (.slice (some ⟨g, 0, none⟩) (T.length + 1) cap) av (T ++ [e]) R := by
  subst hn
  have hsz := h.below.size
  have hs1 : wr.heap.size + 1 ≤ w1.heap.size := by have := hgrow.size; simpa using this
  have hblk : ∀ k, k < wr.heap.size → some k ≠ tv.ownBlock → w1.heap[k]? = wr.heap[k]? := fun k h1 h2 => (hgrow.block k (by simp; omega) h2).trans (Deep.blk_alloc_lt _ _ _ h1)
  refine ⟨?_, ?_, ?_, ?_, ?_⟩
  · have e1 : typsOf (T ++ [e]) = typsOf T ++ [.int .u8 e.1] := by simp [typsOf]
    rw [e1, List.length_append]
    exact hown
  · have h1 := h.oa.alloc o
    refine h1.kept hgrow ?_
    cases hq : av.ownBlock with
    | none => exact .inl rfl
    | some q => exact .inr (fun e => h.ne q e.symm hq)
  · intro q hq
    have hq' : g = q := by injection hq
    subst hq'
    rcases hat with h1 | h1
    · exact h.ne _ h1
    · intro h2
      have := (own_row h.oa _ h2).2
      omega
  · intro x hx W hW
    refine h.good x hx W (fun k h1 h2 h3 => ?_)
    have hkg : some k ≠ (Value.slice (some ⟨g, 0, none⟩) (T.length + 1) cap).ownBlock := by
      intro e
      have e' : k = g := by injection e
      rcases hat with h4 | h4
      · rw [← e'] at h4; exact h2 h4.symm
      · omega
    exact (hW k (by omega) hkg h3).trans (hblk k h1 h2)
  · exact (h.below.alloc hsz o).grown hgrow (by simp; omega) (fun q hq => (own_row h.ot q hq).1)
/-- numbers more: a copy was made, then appended -/
theorem Two.asn {w0 wr w1 : World} {tv av : Value} {T R : List Ent} {e : Ent} {o : Obj} {g n cap : Nat} (h : Two w0 wr tv av T R) (hg : ∀ W : World, But2 wr W tv av → Good W e)
    (hown : w1.ownsRow w0.heap.size 47 1 (.slice (some ⟨g, 0, none⟩) n cap) (R.length + 1) (valsOf R ++ [valOf e])) (hgrow : (wr.alloc o).grownBy w1 av.ownBlock) (hat : av.ownBlock = some g ∨ g = wr.heap.size + 1) (hn : n = R.length + 1) :
    Two w0 w1 tv (.slice (some ⟨g, 0, none⟩) (R.length + 1) cap) T (R ++ [e]) := by
  subst hn
  have hsz := h.below.size
  have hs1 : wr.heap.size + 1 ≤ w1.heap.size := by have := hgrow.size; simpa using this
  have hblk : ∀ k, k < wr.heap.size → some k ≠ av.ownBlock → w1.heap[k]? = wr.heap[k]? := fun k h1 h2 => (hgrow.block k (by simp; omega) h2).trans (Deep.blk_alloc_lt _ _ _ h1)
  have hgo : ∀ (W : World), But2 w1 W tv (.slice (some ⟨g, 0, none⟩) (R.length + 1) cap) → But2 wr W tv av := fun W hW k h1 h2 h3 => by
    have hkg : some k ≠ (Value.slice (some ⟨g, 0, none⟩) (R.length + 1) cap).ownBlock := by
      intro e
      have e' : k = g := by injection e
      rcases hat with h4 | h4
      · rw [← e'] at h4; exact h3 h4.symm
      · omega
    exact (hW k (by omega) h2 hkg).trans (hblk k h1 h3)
  refine ⟨?_, ?_, ?_, ?_, ?_⟩
  · have h1 := h.ot.alloc o
    refine h1.kept hgrow ?_
    cases hq : tv.ownBlock with
    | none => exact .inl rfl
    | some q => exact .inr (fun e => h.ne q hq e.symm)
  · have e1 : valsOf (R ++ [e]) = valsOf R ++ [valOf e] := by simp [valsOf]
    rw [e1, List.length_append]
    exact hown
  · intro q hq h2
    have hq' : g = q := by injection h2
    subst hq'
    rcases hat with h1 | h1
    · exact h.ne _ hq h1
    · have := (own_row h.ot _ hq).2
      omega
  · intro x hx W hW
    rcases List.mem_append.1 hx with hx | hx
    · exact h.good x hx W (hgo W hW)
    · rw [List.mem_singleton.1 hx]
      exact hg W (hgo W hW)
  · exact (h.below.alloc hsz o).grown hgrow (by simp; omega) (fun q hq => (own_row h.oa q hq).1)
end Go.Proofs.Qxb6614704aMods
