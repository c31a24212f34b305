/-
  A row of segments, entry by entry.
-/
import Derived.Test.Qxb6614704aModsTurn
namespace Go.Proofs.Qxb6614704aMods
open Go.RowKit

/-- a segment as it lies in a row: its kind, its numbers, where they lie, the capacity -/
abbrev Ent := Int × List Int × Option Addr × Nat
def segOf (e : Ent) : Seg := (e.1, e.2.1)
def valOf (e : Ent) : Value := .slice e.2.2.1 e.2.1.length e.2.2.2
def cellsOf : List Ent → List Value
  | [] => []
  | e :: r => .int .u8 e.1 :: valOf e :: cellsOf r
/-- the numbers lie where it says -/
structure Good (w : World) (e : Ent) : Prop where
  le : e.2.1.length ≤ e.2.2.2
  top : e.2.2.2 ≤ maxLen
  asns : AsnsF w e.2.2.1 e.2.1
  nil : e.2.2.1 = none → e.2.2.2 = 0
theorem cellsOf_length (R : List Ent) : (cellsOf R).length = R.length * 2 := by
  induction R with
  | nil => rfl
  | cons e r ih => simp [cellsOf, ih]; omega
theorem cellsOf_append (A B : List Ent) : cellsOf (A ++ B) = cellsOf A ++ cellsOf B := by
  induction A with
  | nil => rfl
  | cons e r ih => simp [cellsOf, ih]
theorem cellsOf_one (R : List Ent) : ∀ u ∈ cellsOf R, u.oneCell' = true := by
  induction R with
  | nil => intro u h; cases h
  | cons e r ih =>
    intro u h
    simp only [cellsOf, List.mem_cons] at h
    rcases h with rfl | rfl | h
    · rfl
    · rfl
    · exact ih u h
theorem cellsOf_at (R : List Ent) : ∀ i (h : i < R.length), (cellsOf R)[i * 2]? = some (.int .u8 R[i].1) ∧ (cellsOf R)[i * 2 + 1]? = some (valOf R[i]) := by
  induction R with
  | nil => intro i h; simp at h
  | cons e r ih =>
    intro i h
    cases i with
    | zero => exact ⟨rfl, rfl⟩
    | succ i =>
      have := ih i (by simpa using h)
      have e1 : (i + 1) * 2 = i * 2 + 1 + 1 := by omega
      rw [e1]
      simpa [cellsOf] using this

/-- A path in memory, entry by entry. -/
theorem entries {w : World} {b : Nat} : ∀ (S : List Seg) (off : Nat), (∀ i (h : i < S.length), w.cell? ⟨b, off + i * 2, none⟩ = some (.int .u8 S[i].1) ∧ ∃ xo xc, w.cell? ⟨b, off + i * 2 + 1, none⟩ = some (.slice xo S[i].2.length xc) ∧ S[i].2.length ≤ xc ∧ xc ≤ maxLen ∧ AsnsF w xo S[i].2 ∧ (xo = none → xc = 0)) →
    ∃ R : List Ent, R.map segOf = S ∧ (∀ j u, (cellsOf R)[j]? = some u → w.cell? ⟨b, off + j, none⟩ = some u) ∧ ∀ e ∈ R, Good w e
  | [], off, _ => ⟨[], rfl, fun j u h => by simp [cellsOf] at h, fun e h => by cases h⟩
  | s :: r, off, h => by
    obtain ⟨h0, xo, xc, h1, h2, h3, h4, h5⟩ := h 0 (by simp)
    obtain ⟨R, hR, hc, hg⟩ := entries r (off + 2) (fun i hi => by
      have := h (i + 1) (by simpa using hi)
      have e1 : off + (i + 1) * 2 = off + 2 + i * 2 := by omega
      rw [e1] at this
      simpa using this)
    refine ⟨(s.1, s.2, xo, xc) :: R, by simp [segOf, hR], fun j u hu => ?_, fun e he => ?_⟩
    · cases j with
      | zero =>
        simp [cellsOf] at hu
        subst hu
        simpa using h0
      | succ j =>
        cases j with
        | zero =>
          simp [cellsOf] at hu
          subst hu
          simpa [valOf] using h1
        | succ j =>
          simp [cellsOf] at hu
          have := hc j u hu
          have e1 : off + (j + 1 + 1) = off + 2 + j := by omega
          rw [e1]
          exact this
    · rcases List.mem_cons.1 he with rfl | he
      · exact ⟨h2, h3, h4, h5⟩
      · exact hg e he
theorem PathL.ents {w : World} {ao : Option Addr} {S : List Seg} (h : PathL w ao S) : ∃ R : List Ent, R.map segOf = S ∧ (∀ e ∈ R, Good w e) ∧ (S = [] ∨ ∃ b off, ao = some ⟨b, off, none⟩ ∧ ∀ j u, (cellsOf R)[j]? = some u → w.cell? ⟨b, off + j, none⟩ = some u) := by
  rcases h with h | ⟨b, off, rfl, h⟩
  · obtain rfl : S = [] := List.eq_nil_of_length_eq_zero h
    exact ⟨[], rfl, fun e h => (by cases h), .inl rfl⟩
  · obtain ⟨R, h1, h2, h3⟩ := entries S off (fun i hi => by
      have := h i hi
      have e : S.getD i (0, []) = S[i] := by simp [List.getD, hi]
      unfold tyL zsL at this
      rw [e] at this
      exact this)
    exact ⟨R, h1, h3, .inr ⟨b, off, rfl, h2⟩⟩
/-- A row of entries is a path. -/
theorem path_of_ents {w : World} {b off : Nat} (R : List Ent) (hc : ∀ j u, (cellsOf R)[j]? = some u → w.cell? ⟨b, off + j, none⟩ = some u) (hg : ∀ e ∈ R, Good w e) : PathL w (some ⟨b, off, none⟩) (R.map segOf) := by
  unfold PathL
  refine .inr ⟨b, off, rfl, fun i hi => ?_⟩
  have hi' : i < R.length := by simpa using hi
  have e : (R.map segOf).getD i (0, []) = segOf R[i] := by simp [List.getD, hi']
  unfold tyL zsL
  rw [e]
  obtain ⟨h0, h1⟩ := cellsOf_at R i hi'
  have g := hg R[i] (List.getElem_mem hi')
  exact ⟨hc _ _ h0, R[i].2.2.1, R[i].2.2.2, hc _ _ h1, g.le, g.top, g.asns, g.nil⟩
theorem Good.keep {w w' : World} {e : Ent} (h : Good w e) (hk : ∀ a v, w.cell? a = some v → w'.cell? a = some v) : Good w' e := ⟨h.le, h.top, h.asns.keep hk, h.nil⟩

theorem owns_set {w : World} {base g n cap : Nat} {xs : List Value} (h : w.ownsRow base 89 2 (.slice (some ⟨g, 0, none⟩) n cap) n xs) (j : Nat) (v : Value) : (w.setCell ⟨g, j, none⟩ v).ownsRow base 89 2 (.slice (some ⟨g, 0, none⟩) n cap) n (xs.set j v) := by
  refine ⟨by simpa using h.1, .inr ?_⟩
  rcases h.2 with ⟨h0, _⟩ | ⟨g', cap', cur, hv, hb, hg, hc1, hc2, hsz, htk⟩
  · cases h0
  · have hv' := hv
    simp only [Value.slice.injEq, Option.some.injEq, Addr.mk.injEq] at hv'
    obtain ⟨⟨rfl, _⟩, _, rfl⟩ := hv'
    refine ⟨g, cap, cur.setIfInBounds j v, rfl, hb, ?_, hc1, hc2, by simpa using hsz, ?_⟩
    · simp [World.setCell, Array.getElem?_modify, hg]
    · rw [Array.toList_setIfInBounds, List.take_set, htk]
theorem owns_cells {w : World} {base g n cap : Nat} {xs : List Value} (h : w.ownsRow base 89 2 (.slice (some ⟨g, 0, none⟩) n cap) n xs) : ∀ j u, xs[j]? = some u → w.cell? ⟨g, 0 + j, none⟩ = some u := fun j u hu => by
  have := h.cells rfl j u hu
  rw [Addr.add_lit] at this
  exact this

end Go.Proofs.Qxb6614704aMods
