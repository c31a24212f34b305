/-
  What the merge computes, with no Go in sight.
-/
import Derived.Test.Qxb6614704aModsMade
namespace Go.Proofs.Qxb6614704aMods
open Go.RowKit

def plenL : List Seg → Nat
  | [] => 0
  | s :: r => cnt s.1 s.2 + plenL r
/-- the leading segments that count up to k -/
def keepC : Nat → List Seg → List Seg
  | _, [] => []
  | k, s :: r => if k = 0 then [] else if s.1 = 2 then (2, s.2.take k) :: keepC (k - min k s.2.length) r else if s.1 = 1 then s :: keepC (k - 1) r else s :: keepC k r
/-- F behind M, one sequence where two meet -/
def joinL (M F : List Seg) : List Seg :=
  match M.getLast?, F with
  | some m, f :: r => if m.1 = 2 ∧ f.1 = 2 then M.dropLast ++ (2, m.2 ++ f.2) :: r else M ++ F
  | _, _ => M ++ F
def mergeL (P F : List Seg) : List Seg := if plenL F ≤ plenL P then joinL (keepC (plenL P - plenL F) P) F else P
/-- an aggregator of another AS than AS_TRANS: what the AS4 attributes say is stale -/
def stale (ag : Option Int) : Bool := match ag with | some z => z != 23456 | none => false
def fPath (P : List Seg) (F : Option (List Seg)) : List Seg := match F with | some F => mergeL P F | none => P
def fAgg (ag ag4 : Option Int) : Option Int := match ag4 with | some z => some z | none => ag
def mPath (as4 : Bool) (P : List Seg) (ag : Option Int) (F : Option (List Seg)) : List Seg := if as4 || stale ag then P else fPath P F
def mAgg (as4 : Bool) (ag ag4 : Option Int) : Option Int := if as4 || stale ag then ag else fAgg ag ag4
def Fits (K : Nat) (S : List Seg) : Prop := S.length ≤ K ∧ ∀ s ∈ S, s.2.length ≤ K

theorem keepC_zero (S : List Seg) : keepC 0 S = [] := by cases S <;> simp [keepC]
theorem plenL_append (A B : List Seg) : plenL (A ++ B) = plenL A + plenL B := by
  induction A with
  | nil => simp [plenL]
  | cons s r ih => simp [plenL, ih]; omega
theorem Fits.zs {K : Nat} {S : List Seg} (h : Fits K S) {i : Nat} (hi : i < S.length) : (zsL S i).length ≤ K := by
  have : S.getD i (0, []) = S[i] := by simp [List.getD, hi]
  rw [zsL, this]
  exact h.2 _ (List.getElem_mem hi)
theorem plen_take (S : List Seg) : ∀ k, k ≤ S.length → plen (tyL S) (zsL S) k = plenL (S.take k)
  | 0, _ => by simp [plen, plenL]
  | k + 1, h => by
    have e : S.getD k (0, []) = S[k] := by simp [List.getD, show k < S.length by omega]
    rw [plen, plen_take S k (by omega), List.take_succ_eq_append_getElem (by omega), plenL_append]
    unfold tyL zsL
    rw [e]
    simp [plenL]
theorem plen_all (S : List Seg) : plen (tyL S) (zsL S) S.length = plenL S := by rw [plen_take S _ (Nat.le_refl _), List.take_length]
theorem plenL_le {K : Nat} {S : List Seg} (h : ∀ s ∈ S, s.2.length ≤ K) (hK : 1 ≤ K) : plenL S ≤ S.length * K := by
  induction S with
  | nil => simp [plenL]
  | cons s r ih =>
    have h1 := ih (fun s hs => h s (List.mem_cons_of_mem _ hs))
    have h2 : cnt s.1 s.2 ≤ K := by
      have := h s List.mem_cons_self
      unfold cnt
      split
      · exact this
      · split <;> omega
    simp only [plenL, List.length_cons, Nat.add_mul]
    omega

end Go.Proofs.Qxb6614704aMods
