/-
  The row's frame: the arguments opened.
-/
import Derived.Test.Qxb6614704aModsBase
import Derived.ProofKit
import Derived.OpenShut
import Derived.ShutString
import Derived.ChangeOld
import Derived.Below
import Derived.SliceStrings
import Derived.Deep.Matrix
namespace Go.Proofs.Qxb6614704aMods
open Go.ChangeShapes Go.WideShapes Go.ChangeAt Go.RowKit Go.Deep

theorem own : ownKnob Trym.prog.godebug = none := by kernel_rfl
theorem laidOut : laidOutB Trym.prog = true := by kernel_rfl
theorem cells5 : Trym.prog.cellsOf 5 = 1 := by kernel_rfl
theorem cells34 : Trym.prog.cellsOf 34 = 1 := by kernel_rfl
theorem cells47 : Trym.prog.cellsOf 47 = 1 := by kernel_rfl

section
variable {H : Type} {enc : TypeId × Value → H} {W : World}

theorem openU8 {a : Option Addr} {len cap : Nat} {d : DataW H} {p : List MemPlace} (h : DataW.Trod enc Trym.prog W 0 (fun _ => true) true 22 (.slice a len cap) d p) :
    len ≤ maxLen ∧ (a = none → len = 0 ∧ cap = 0) ∧ ∃ A, U8At W a len A := by
  obtain ⟨fuel, hf⟩ := h
  rcases open_ints Trym.underlying22 Trym.underlying5 cells5 hf with ⟨hcs, _⟩ | ⟨x, l, c, zs, hcs, _, hl, hm, hz, _, hcell, hwz⟩
  · simp [Value.cells] at hcs
    obtain ⟨rfl, rfl, rfl⟩ := hcs
    exact ⟨Nat.zero_le _, fun _ => ⟨rfl, rfl⟩, fun _ => 0, .inl rfl⟩
  · simp [Value.cells] at hcs
    obtain ⟨rfl, rfl, rfl⟩ := hcs
    simp only [if_true] at hz
    refine ⟨Nat.le_trans hl hm, (fun e => by cases e), fun i => zs.getD i 0, ?_⟩
    by_cases h0 : len = 0
    · exact .inl h0
    · obtain ⟨b, off, spot⟩ := x
      have hspot : spot = none := by simpa [Addr.add] using World.cell?_spot (hcell 0 (by omega))
      subst hspot
      exact .inr ⟨b, off, rfl, fun i hi => by rw [← add_plain]; exact hcell i (by omega)⟩

theorem openRows {a : Option Addr} {len cap : Nat} {d : DataW H} {p : List MemPlace} (h : DataW.Trod enc Trym.prog W 0 (fun _ => true) true 33 (.slice a len cap) d p) :
    len ≤ maxLen ∧ (a = none → len = 0 ∧ cap = 0) ∧ ∃ Z, RowsAt W a len Z := by
  obtain ⟨fuel, hf⟩ := h
  rcases open_int_rows Trym.underlying33 Trym.underlying47 Trym.underlying34 cells47 cells34 hf with ⟨hcs, _⟩ | ⟨x, l, c, A, L, C, Z, hcs, _, hl, hm, _, hrow⟩
  · simp [Value.cells] at hcs
    obtain ⟨rfl, rfl, rfl⟩ := hcs
    exact ⟨Nat.zero_le _, fun _ => ⟨rfl, rfl⟩, fun _ => [], .inl rfl⟩
  · simp [Value.cells] at hcs
    obtain ⟨rfl, rfl, rfl⟩ := hcs
    refine ⟨Nat.le_trans hl hm, (fun e => by cases e), fun i => (Z i).take (L i), ?_⟩
    by_cases h0 : len = 0
    · exact .inl h0
    · obtain ⟨b, off, spot⟩ := x
      have hspot : spot = none := by simpa [Addr.add] using World.cell?_spot (hrow 0 (by omega)).1
      subst hspot
      refine .inr ⟨b, off, rfl, fun i hi => ?_⟩
      obtain ⟨r1, r2, r3, r4, _, r6, r7⟩ := hrow i (by omega)
      have hlen : ((Z i).take (L i)).length = L i := by rw [List.length_take]; omega
      refine ⟨A i, C i, by rw [hlen, ← add_plain]; exact r1, by rw [hlen]; exact r2, r3, ?_, r6⟩
      by_cases hl0 : L i = 0
      · exact .inl (by rw [hlen]; exact hl0)
      · cases ha : A i with
        | none => exact absurd (r6 ha) (by omega)
        | some a' =>
          obtain ⟨b', off', spot'⟩ := a'
          have hc := (r7 _ ha).2
          have hspot' : spot' = none := by simpa [Addr.add] using World.cell?_spot (hc 0 (by omega))
          subst hspot'
          refine .inr ⟨b', off', rfl, fun j hj => ?_⟩
          rw [hlen] at hj
          have := hc j (by omega)
          rw [add_plain] at this
          rw [this]
          simp [nth, List.getD, hj]
end
end Go.Proofs.Qxb6614704aMods
