/-
  A decoder that is turned in one place.
-/
import Derived.Test.Qxb6614704aModsPlain
namespace Go.Proofs.Qxb6614704aMods
open Go.RowKit

/-- Every block but the attributes' own is as it was. -/
theorem Dec.turned {w w' : World} {ba bd : Nat} {as4 : Bool} {P P' : List Seg} {ag ag' ag4 : Option Int} {F : Option (List Seg)} (h : Dec w ba bd as4 P ag ag4 F) (hsz : w.heap.size ≤ w'.heap.size)
    (hk : ∀ k, k < w.heap.size → k ≠ ba → w'.heap[k]? = w.heap[k]?) (hf : ∀ o, w'.frozen? ⟨ba, o, none⟩ = w.frozen? ⟨ba, o, none⟩)
    (hp : ∃ po pc, w'.cell? ⟨ba, 1, none⟩ = some (.slice po P'.length pc) ∧ P'.length ≤ pc ∧ pc ≤ maxLen ∧ PathL (sans w' ba) po P')
    (hg : ∃ p, w'.cell? ⟨ba, 14, none⟩ = some p ∧ AggAt w' ba p ag') : Dec w' ba bd as4 P' ag' ag4 F := by
  have hl := h.lt
  have hs := h.sz
  have cd : ∀ o, w'.cell? ⟨bd, o, none⟩ = w.cell? ⟨bd, o, none⟩ := fun o => World.cell?_of_block (hk bd hs (by omega))
  obtain ⟨r, r1, r2⟩ := h.agg4
  obtain ⟨fo, fc, s1, s2, s3, s4, s5⟩ := h.four
  exact ⟨hl, Nat.lt_of_lt_of_le hs hsz, (cd _).trans h.c0, (cd _).trans h.c7, (hf _).trans h.f1, (hf _).trans h.f14, hp, hg,
    ⟨r, (cd _).trans r1, r2.keep hk⟩, ⟨fo, fc, (cd _).trans s1, s2, s3, s4.sansKeep (by omega) hk, s5⟩⟩
theorem Dec.setAgg {w : World} {ba bd : Nat} {as4 : Bool} {P : List Seg} {ag ag' ag4 : Option Int} {F : Option (List Seg)} (h : Dec w ba bd as4 P ag ag4 F) {p : Value} (hp : AggAt w ba p ag') :
    Dec (w.setCell ⟨ba, 14, none⟩ p) ba bd as4 P ag' ag4 F := by
  have hl := h.lt
  have hs := h.sz
  have hk : ∀ k, k < w.heap.size → k ≠ ba → (w.setCell ⟨ba, 14, none⟩ p).heap[k]? = w.heap[k]? := fun k _ h2 => Below.heap_setCell _ _ _ _ h2
  obtain ⟨po, pc, p1, p2, p3, p4⟩ := h.path
  obtain ⟨q, q1, _⟩ := h.agg
  exact h.turned (by simp) hk (fun o => by simp) ⟨po, pc, (World.cell?_setCell_other _ _ _ _ (by simp)).trans p1, p2, p3, p4.sansKeep (by omega) hk⟩ ⟨p, World.cell?_setCell_same _ _ _ q1, hp.keep hk⟩
theorem Dec.setPath {w : World} {ba bd : Nat} {as4 : Bool} {P P' : List Seg} {ag ag4 : Option Int} {F : Option (List Seg)} (h : Dec w ba bd as4 P ag ag4 F) {po : Option Addr} {pc : Nat} (h1 : P'.length ≤ pc) (h2 : pc ≤ maxLen) (hp : PathL (sans w ba) po P') :
    Dec (w.setCell ⟨ba, 1, none⟩ (.slice po P'.length pc)) ba bd as4 P' ag ag4 F := by
  have hl := h.lt
  have hs := h.sz
  have hk : ∀ k, k < w.heap.size → k ≠ ba → (w.setCell ⟨ba, 1, none⟩ (.slice po P'.length pc)).heap[k]? = w.heap[k]? := fun k _ h2 => Below.heap_setCell _ _ _ _ h2
  obtain ⟨qo, qc, p1, _⟩ := h.path
  obtain ⟨q, q1, q2⟩ := h.agg
  exact h.turned (by simp) hk (fun o => by simp) ⟨po, pc, World.cell?_setCell_same _ _ _ p1, h1, h2, hp.sansKeep (by omega) hk⟩ ⟨q, (World.cell?_setCell_other _ _ _ _ (by simp)).trans q1, q2.keep hk⟩
theorem bel_drewN {B : Nat} {a w : World} (h : Below B a w) (n : Nat) : Below B a (w.drewN n) := ⟨h.os, h.tape, h.output, h.size, h.block⟩
theorem not_stale {ag : Option Int} (h : stale ag = false) : ag = none ∨ ag = some 23456 := by
  cases ag with
  | none => exact .inl rfl
  | some z => simp [stale] at h; exact .inr (by rw [h])
end Go.Proofs.Qxb6614704aMods
