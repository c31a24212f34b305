/-
  Plain laws for the second law's own function.
-/
import Derived.Test.Qxb6614704aModsTold
import Derived.Test.Qxb6614704aModsRead
namespace Go.Proofs.Qxb6614704aMods
open Go.RowKit

theorem flatTo_congr {zs zs' : Nat → List Int} : ∀ n, (∀ i, i < n → zs i = zs' i) → flatTo zs n = flatTo zs' n
  | 0, _ => rfl
  | n + 1, h => by rw [flatTo, flatTo, flatTo_congr n (fun i hi => h i (by omega)), h n (by omega)]
theorem flatTo_take (S : List Seg) : ∀ k, k ≤ S.length → flatTo (zsL S) k = flatL (S.take k)
  | 0, _ => by simp [flatTo, flatL]
  | k + 1, h => by
    have e : S.getD k (0, []) = S[k] := by simp [List.getD, show k < S.length by omega]
    rw [flatTo, flatTo_take S k (by omega), List.take_succ_eq_append_getElem (by omega), flatL_append]
    unfold zsL
    rw [e]
    simp [flatL]
theorem flatTo_all (S : List Seg) : flatTo (zsL S) S.length = flatL S := by rw [flatTo_take S _ (Nat.le_refl _), List.take_length]
theorem flatTo_segs (n : Nat) (ty : Nat → Int) (zs : Nat → List Int) : flatTo zs n = flatL (segsOf n ty zs) := by
  have h := flatTo_all (segsOf n ty zs)
  rw [segsOf_length] at h
  rw [← h]
  exact flatTo_congr n (fun i hi => by rw [zsL, segsOf_getD n ty zs hi])
theorem flat_top {zs : Nat → List Int} {n : Nat} (hn : n ≤ 2097152) (h : ∀ i, i < n → (zs i).length ≤ 2097152) : ∀ k, k ≤ n → (flatTo zs k).length ≤ 4398046511104 := by
  intro k hk
  have h1 : (flatTo zs k).length ≤ k * 2097152 := by
    induction k with
    | zero => exact Nat.le_refl _
    | succ k ih =>
      have h1 := ih (by omega)
      have h2 := h k (by omega)
      rw [flatTo, List.length_append, Nat.succ_mul]
      exact Nat.add_le_add h1 h2
  exact Nat.le_trans h1 (Nat.le_trans (Nat.mul_le_mul_right 2097152 (show k ≤ 2097152 by omega)) (by decide))
theorem plen_top2 {ty : Nat → Int} {zs : Nat → List Int} {n : Nat} (hn : n ≤ 2097152) (h : ∀ i, i < n → (zs i).length ≤ 2097152) : ∀ k, k ≤ n → plen ty zs k ≤ 4398046511104 := by
  intro k hk
  have h1 : plen ty zs k ≤ k * 2097152 := by
    induction k with
    | zero => exact Nat.le_refl _
    | succ k ih =>
      have h1 := ih (by omega)
      have h2 : cnt (ty k) (zs k) ≤ 2097152 := by
        have := h k (by omega)
        unfold cnt
        split
        · exact this
        · split <;> omega
      rw [plen, Nat.succ_mul]
      exact Nat.add_le_add h1 h2
  exact Nat.le_trans h1 (Nat.le_trans (Nat.mul_le_mul_right 2097152 (show k ≤ 2097152 by omega)) (by decide))
/-- where the merge applies: a leading piece, then the other path -/
theorem merged_flat {P F : List Seg} (h : plenL F ≤ plenL P) : ∃ hd, flatL (mergeL P F) = (flatL P).take hd ++ flatL F ∧ hd ≤ (flatL P).length := by
  obtain ⟨m, hm, hl⟩ := flatL_keep P (plenL P - plenL F)
  refine ⟨m, ?_, hl⟩
  unfold mergeL
  rw [if_pos h, flatL_join, hm]
theorem merged_length (P F : List Seg) : (mergeL P F).length ≤ P.length + F.length := by
  unfold mergeL
  split
  · have h1 := joinL_length (keepC (plenL P - plenL F) P) F
    have h2 := (keepC_fits P (plenL P - plenL F)).1
    omega
  · omega
theorem nth_left {G A B : List Int} {k hd : Nat} (h : G = A.take hd ++ B) (hh : hd ≤ A.length) (hk : k < hd) : nth G k = nth A k := by
  subst h
  have h1 : k < (A.take hd).length := by rw [List.length_take]; omega
  simp only [nth, List.getD]
  rw [List.getElem?_append_left h1, List.getElem?_take, if_pos hk]
theorem nth_right {G A B : List Int} {k hd : Nat} (h : G = A.take hd ++ B) (hh : hd ≤ A.length) : nth G (hd + k) = nth B k := by
  subst h
  have h1 : (A.take hd).length = hd := by rw [List.length_take]; omega
  simp only [nth, List.getD]
  rw [List.getElem?_append_right (by omega), h1, Nat.add_sub_cancel_left]
theorem mp_same {x0 st : Bool} {d7 : Option Addr} {p1 p7 : Nat} {P F : List Seg} {ag : Option Int} (hst : st = stale ag) (h1 : p1 = plenL P) (h7 : p7 = plenL F) (h : (x0 || st || d7.isNone || decide (p1 < p7)) = true) : mPath x0 P ag (fourOf d7 F) = P := by
  unfold mPath
  rw [← hst]
  cases hx : (x0 || st)
  · rw [hx] at h
    cases d7 with
    | none => rfl
    | some a =>
      have hlt : p1 < p7 := by simpa using h
      show mergeL P F = P
      unfold mergeL
      rw [if_neg (by omega)]
  · rfl
theorem mp_merged {x0 st : Bool} {d7 : Option Addr} {p1 p7 : Nat} {P F : List Seg} {ag : Option Int} (hst : st = stale ag) (h1 : p1 = plenL P) (h7 : p7 = plenL F) (h : (x0 || st || d7.isNone || decide (p1 < p7)) = false) : mPath x0 P ag (fourOf d7 F) = mergeL P F ∧ plenL F ≤ plenL P := by
  cases hx : (x0 || st)
  · rw [hx] at h
    cases d7 with
    | none => simp at h
    | some a =>
      have hlt : ¬ p1 < p7 := by simpa using h
      refine ⟨?_, by omega⟩
      unfold mPath
      rw [← hst, hx]
      rfl
  · rw [hx] at h
    simp at h
/-- the numbers lie where they lay in the elder world -/
theorem pathASNs_from (ba bd : Nat) (as4 : Bool) (P : List Seg) (ag ag4 : Option Int) (F : Option (List Seg)) (w0 w : World) (hd : Dec w0 ba bd as4 P ag ag4 F) (hb : Below w0.heap.size w0 w) (i : Nat) (hi : i < P.length) :
    Calls Trym.prog 27 #[.pointer (some ⟨bd, 0, none⟩), .int .i64 i] w fun e w' => RetAs e w0 (zsL P i) ∧ w' = w := by
  have c7 := (hb.cell (p := ⟨bd, 7, none⟩) hd.sz).trans hd.c7
  obtain ⟨po, pc, c1, q2, q3, hp⟩ := hd.path
  have d1 := (hb.cell (p := ⟨ba, 1, none⟩) (cell_lt c1)).trans c1
  obtain ⟨b, off, xo, xc, rfl, t0, t1, x2, x3, ha, _⟩ := hp.back.at hi
  have s1 := (hb.cell (p := ⟨b, off + i * 2 + 1, none⟩) (cell_lt t1)).trans t1
  unfold maxLen at q3
  have HA : Hid (AsnsF w0 xo (zsL P i)) := ha
  clear hd hp ha hb t0 t1 c1
  go_enter Trym.func27, Trym.ntmps27
  go_wp2
  go_ret
  exact ⟨⟨xo, xc, rfl, HA.out, x2, x3⟩, rfl⟩
end Go.Proofs.Qxb6614704aMods
