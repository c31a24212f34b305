/-
  What holds at the head of each round of the law's second loop; what a saga that has ended holds.
-/
import Derived.Test.Qxb6614692aModsCopy
namespace Go.Proofs.Qxb6614692aMods
open Go.RowKit

/-- the step that is next when all is done: the lowest that has a compensation; without one, the saga's own next as it was -/
def Fin (C : Nat → ByteArray) (q0 : Nat) (nx nf : Int) : Prop := (M (Zof C) q0 = 0 ∧ nf = nx) ∨ (∃ j0 : Nat, (L (Zof C) q0)[0]? = some j0 ∧ nf = j0)

def RoundAt (w : World) (B b : Nat) (ao : Option Addr) (cap n : Nat) (U C Bd T : Nat → ByteArray) (A : Nat → Int) (q0 : Nat) (nx at_ : Int) (ki : Int) (rn : Nat) : Prop :=
  (∃ j, j < q0 ∧ Zof C j = false ∧ ki = (M (Zof C) j : Nat) ∧ rn + M (Zof C) j + 1 = M (Zof C) q0 ∧ Sg w B b ao cap n (FP U C Bd T A (Zof C) q0 j) compensating j 0) ∨
  (ki = -1 ∧ rn ≤ n ∧ ∃ nf, Fin C q0 nx nf ∧ Sg w B b ao cap n (FE (FP U C Bd T A (Zof C) q0 0) n) compensated nf at_)

section
variable {w : World} {B b : Nat} {ao : Option Addr} {cap n : Nat} {U C Bd T : Nat → ByteArray} {A : Nat → Int} {q0 : Nat} {nx at_ : Int}

theorem M_gap {Z : Nat → Bool} {j q : Nat} (hj : j < q) (hz : Z j = false) (ha : ∀ i, j < i → i < q → Z i = true) : M Z q = M Z j + 1 := by
  rw [M_flat Z (j + 1) q hj (fun i h1 h2 => ha i h1 h2), M_no hz]
theorem M_all {Z : Nat → Bool} {q : Nat} (ha : ∀ i, i < q → Z i = true) : M Z q = 0 := by
  rw [M_flat Z 0 q (Nat.zero_le _) (fun i _ h2 => ha i h2)]; rfl

theorem round_start (h : CompOut w B b ao cap n U C Bd T A q0 q0 nx at_) : RoundAt w B b ao cap n U C Bd T A q0 nx at_ ((M (Zof C) q0 : Nat) - 1 : Int) 0 := by
  rcases h with ⟨j, hj, hz, ha, hs⟩ | ⟨ha, hs⟩
  · have := M_gap hj hz ha
    exact .inl ⟨j, hj, hz, by omega, by omega, hs⟩
  · have := M_all ha
    exact .inr ⟨by omega, Nat.zero_le _, nx, .inl ⟨this, rfl⟩, hs⟩

theorem round_next {j rn : Nat} (hj : j < q0) (hz : Zof C j = false) (hr : rn + M (Zof C) j + 1 = M (Zof C) q0) (hq : q0 ≤ n) (h : CompOut w B b ao cap n U C Bd T A q0 j (j : Int) at_) :
    RoundAt w B b ao cap n U C Bd T A q0 nx at_ ((M (Zof C) j : Nat) - 1 : Int) (rn + 1) := by
  rcases h with ⟨i, hi, hzi, ha, hs⟩ | ⟨ha, hs⟩
  · have := M_gap hi hzi ha
    exact .inl ⟨i, by omega, hzi, by omega, by omega, hs⟩
  · have h0 := M_all ha
    have := M_le (Zof C) q0
    refine .inr ⟨by omega, by omega, j, .inr ⟨j, ?_, rfl⟩, hs⟩
    have := L_at (Zof C) j hz q0 hj
    rw [h0] at this
    exact this
end

/-- what the steps of the ended saga hold -/
theorem FE_end (U C Bd T : Nat → ByteArray) (A : Nat → Int) (q0 n i : Nat) (hi : i < n) :
    FE (FP U C Bd T A (Zof C) q0 0) n i 0 = .string ⟨#[]⟩ ∧ FE (FP U C Bd T A (Zof C) q0 0) n i 1 = .string ⟨#[]⟩ ∧ FE (FP U C Bd T A (Zof C) q0 0) n i 2 = .string ⟨#[]⟩ ∧
    FE (FP U C Bd T A (Zof C) q0 0) n i 3 = .string (if i < q0 ∧ Zof C i = true then passedOver else T i) ∧ FE (FP U C Bd T A (Zof C) q0 0) n i 4 = .int .i64 (A i) := by
  refine ⟨?_, ?_, ?_, ?_, ?_⟩
  · unfold FE; rw [if_pos (by omega)]
  · unfold FE; rw [if_pos (by omega)]
  · unfold FE; rw [if_pos (by omega)]
  · unfold FE FP
    rw [if_neg (by omega)]
    by_cases h : i < q0 ∧ Zof C i = true
    · rw [if_pos ⟨rfl, Nat.zero_le _, h.1, h.2⟩, if_pos h]
    · rw [if_neg (fun x => h ⟨x.2.2.1, x.2.2.2⟩), if_neg h]; rfl
  · unfold FE FP
    rw [if_neg (by omega), if_neg (by omega)]; rfl

theorem lPassed : passedOver.toList = [112, 97, 115, 115, 101, 100, 95, 111, 118, 101, 114] := by rw [ByteArray.toList_eq]; rfl
theorem lCompensated : (compensated.toList == [99, 111, 109, 112, 101, 110, 115, 97, 116, 101, 100]) = true := by rw [ByteArray.toList_eq]; rfl
theorem lCompensating : (compensating.toList == [99, 111, 109, 112, 101, 110, 115, 97, 116, 101, 100]) = false := by rw [ByteArray.toList_eq]; rfl

end Go.Proofs.Qxb6614692aMods
