/-
  'copy' of a whole slice into a row that was just made; the slices of this seat in later worlds.
-/
import Derived.Test.Qxb6614692aModsNew
import Derived.Laws.CopyOwn
import Derived.Maps.AppendAt
namespace Go.Proofs.Qxb6614692aMods
open Go.RowKit

/-- A slice of 'n' cells C. -/
def CellsAt (w : World) (ao : Option Addr) (n : Nat) (C : Nat → Value) : Prop := n = 0 ∨ ∃ b off, ao = some ⟨b, off, none⟩ ∧ ∀ i, i < n → w.cell? ⟨b, off + i, none⟩ = some (C i)

theorem wpList_copy_full {w : World} {ops : Array Oper} {rest : List Oper} {o : Oper} {a : Act} {Q : Exit → Act → World → Prop} (hgd : o.guard = none) (d s : Operand) (T : TypeId)
    (ho : o.op = .call { callee := .builtin .copy, args := #[d, s], argTypes := #[T, T] }) (elem : TypeId) (hu : Trym.prog.underlying T = some (.slice elem)) (hsz : (Trym.prog.info? elem).map (·.size) = some 1)
    (g n cap : Nat) (sp : Option Addr) (hd : a.eval d = .slice (some ⟨g, 0, none⟩) n n) (hs : a.eval s = .slice sp n cap) (f0 C : Nat → Value) (hrow : w.rowIs g elem n f0) (hsrc : CellsAt w sp n C) (h1 : ∀ i, i < n → (C i).oneCell' = true)
    (h : ∀ w', w'.rowIs g elem n C → Below g w w' → wpList Trym.prog ops Q rest (a.put o.dst (goInt n)) w') : wpList Trym.prog ops Q (o :: rest) a w := by
  obtain ⟨c, hb, hn, hc⟩ := hrow
  refine wpList_copy_splice hgd d s T T ho elem hu hsz _ _ _ _ _ _ hd hs g 0 c.toList elem (by simpa using hb) ((List.range n).map C) (by simp) (fun hpos => ?_) (by simp [hn]) (fun v hv => ?_) g w (Below.refl _ _) (Nat.le_refl _) (fun w' HG hB => ?_)
  · refine ⟨rfl, ?_⟩
    rcases hsrc with h0 | ⟨b, off, rfl, hcell⟩
    · subst h0; simp at hpos
    · refine ⟨_, rfl, fun j v hj => ?_⟩
      simp only [List.getElem?_map] at hj
      by_cases hjn : j < n
      · rw [List.getElem?_range hjn] at hj
        simp at hj
        subst hj
        have := hcell j hjn
        rw [WideShapes.add_plain]
        exact this
      · rw [List.getElem?_eq_none (by simp; omega)] at hj
        cases hj
  · simp only [List.mem_map, List.mem_range] at hv
    obtain ⟨i, hi, rfl⟩ := hv
    exact h1 i hi
  · have hlen : ((List.range n).map C).length = n := by simp
    rw [hlen]
    refine h w' ⟨_, HG.out, ?_, fun i hi => ?_⟩ hB
    · have := length_splice c.toList 0 ((List.range n).map C) (by simp [hn])
      simpa [hn] using this
    · simp [splice, hi, List.getElem?_append]

theorem StrsAt.cells {w : World} {ao : Option Addr} {n : Nat} {S : Nat → ByteArray} (h : StrsAt w ao n S) : CellsAt w ao n (fun i => .string (S i)) := by
  rcases h with h | ⟨b, off, e, h⟩
  · exact .inl h
  · exact .inr ⟨b, off, e, fun i hi => (h i hi).1⟩
theorem IntsAt.cells {w : World} {ao : Option Addr} {n : Nat} {A : Nat → Int} (h : IntsAt w ao n A) : CellsAt w ao n (fun i => .int .i64 (A i)) := h
theorem StrsAt.later {w w' : World} {ao : Option Addr} {len : Nat} {S : Nat → ByteArray} {B : Nat} (h : StrsAt w ao len S) (hB : w.heap.size ≤ B) (hb : Below B w w') : StrsAt w' ao len S := by
  rcases h with h | ⟨b, off, e, h⟩
  · exact .inl h
  · refine .inr ⟨b, off, e, fun i hi => ?_⟩
    obtain ⟨h1, h2⟩ := h i hi
    exact ⟨(hb.cell (p := ⟨b, _, none⟩) (Nat.lt_of_lt_of_le (cell_lt h1) hB)).trans h1, h2⟩
theorem IntsAt.later {w w' : World} {ao : Option Addr} {len : Nat} {A : Nat → Int} {B : Nat} (h : IntsAt w ao len A) (hB : w.heap.size ≤ B) (hb : Below B w w') : IntsAt w' ao len A := by
  rcases h with h | ⟨b, off, e, h⟩
  · exact .inl h
  · exact .inr ⟨b, off, e, fun i hi => (hb.cell (p := ⟨b, _, none⟩) (Nat.lt_of_lt_of_le (cell_lt (h i hi)) hB)).trans (h i hi)⟩
/-- what a copy leaves is a slice of the same strings -/
theorem StrsAt.of_row {w w0 : World} {ao : Option Addr} {g n : Nat} {S : Nat → ByteArray} (h0 : StrsAt w0 ao n S) (h : w.rowIs g 9 n (fun i => .string (S i))) : StrsAt w (some ⟨g, 0, none⟩) n S := by
  by_cases e : n = 0
  · exact .inl e
  · refine .inr ⟨g, 0, rfl, fun i hi => ⟨by simpa using h.cell hi, ?_⟩⟩
    obtain ⟨_, _, _, _, z⟩ := h0.at hi
    exact z
theorem IntsAt.of_row {w : World} {g n : Nat} {A : Nat → Int} (h : w.rowIs g 3 n (fun i => .int .i64 (A i))) : IntsAt w (some ⟨g, 0, none⟩) n A := by
  by_cases e : n = 0
  · exact .inl e
  · exact .inr ⟨g, 0, rfl, fun i hi => by simpa using h.cell hi⟩

theorem info9 : (Trym.prog.info? 9).map (fun i => (i.zero, i.size, i.bytes)) = some (some (.string ⟨#[]⟩), 1, 16) := by kernel_rfl
theorem info3 : (Trym.prog.info? 3).map (fun i => (i.zero, i.size, i.bytes)) = some (some (.int .i64 0), 1, 8) := by kernel_rfl
theorem size9 : (Trym.prog.info? 9).map (·.size) = some 1 := by kernel_rfl
theorem size3 : (Trym.prog.info? 3).map (·.size) = some 1 := by kernel_rfl

end Go.Proofs.Qxb6614692aMods
