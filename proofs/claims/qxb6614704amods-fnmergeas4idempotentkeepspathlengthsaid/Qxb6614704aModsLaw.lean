/-
  The plain laws of the merge.
-/
import Derived.Test.Qxb6614704aModsPlain
namespace Go.Proofs.Qxb6614704aMods
open Go.RowKit

/-! ### the model of the first law -/
def modC (keep : Nat) : Nat → List Seg → List Seg
  | _, [] => []
  | ahead, s :: r => (if ahead < keep then [(s.1, if s.1 = 2 ∧ keep - ahead < s.2.length then s.2.take (keep - ahead) else s.2)] else []) ++ modC keep (ahead + cnt s.1 s.2) r
theorem cnt_two (l : List Int) : cnt 2 l = l.length := rfl
theorem cnt_one (l : List Int) : cnt 1 l = 1 := rfl
theorem cnt_other {t : Int} (l : List Int) (h2 : ¬ t = 2) (h1 : ¬ t = 1) : cnt t l = 0 := by simp [cnt, h2, h1]
theorem modC_keep (keep : Nat) : ∀ (S : List Seg) (ahead : Nat), modC keep ahead S = keepC (keep - ahead) S
  | [], ahead => by simp [modC, keepC]
  | s :: r, ahead => by
    rw [modC, modC_keep keep r, keepC]
    by_cases h : ahead < keep
    · have h0 : ¬ keep - ahead = 0 := by omega
      rw [if_pos h, if_neg h0]
      by_cases h2 : s.1 = 2
      · rw [if_pos h2]
        have hc : cnt s.1 s.2 = s.2.length := by rw [h2]; exact cnt_two _
        rw [hc]
        have e2 : keep - (ahead + s.2.length) = keep - ahead - min (keep - ahead) s.2.length := by omega
        rw [e2, h2]
        by_cases h3 : keep - ahead < s.2.length
        · rw [if_pos ⟨rfl, h3⟩]; rfl
        · rw [if_neg (fun h => h3 h.2), List.take_of_length_le (by omega)]; rfl
      · rw [if_neg h2, if_neg (fun h => h2 h.1)]
        by_cases h1 : s.1 = 1
        · rw [if_pos h1]
          have hc : cnt s.1 s.2 = 1 := by rw [h1]; exact cnt_one _
          rw [hc, Nat.sub_add_eq]; rfl
        · rw [if_neg h1, cnt_other _ h2 h1]; rfl
    · rw [if_neg h, if_pos (by omega)]
      have e : keep - (ahead + cnt s.1 s.2) = 0 := by omega
      rw [e, keepC_zero]; rfl

/-! ### the second law -/
def Tight : Nat → List Seg → Prop
  | k, [] => k = 0
  | k, s :: r => k ≠ 0 ∧ cnt s.1 s.2 ≤ k ∧ Tight (k - cnt s.1 s.2) r
theorem tight_keep : ∀ (P : List Seg) (k : Nat), k ≤ plenL P → Tight k (keepC k P)
  | [], k, h => by simp [plenL] at h; simp [keepC, Tight, h]
  | s :: r, k, h => by
    rw [keepC]
    by_cases h0 : k = 0
    · rw [if_pos h0]; exact h0
    · rw [if_neg h0]
      rw [plenL] at h
      by_cases h2 : s.1 = 2
      · rw [if_pos h2]
        have hc : cnt s.1 s.2 = s.2.length := by rw [h2]; exact cnt_two _
        have e : cnt 2 (s.2.take k) = min k s.2.length := by rw [cnt_two, List.length_take]
        refine ⟨h0, by show cnt 2 (s.2.take k) ≤ k; rw [e]; omega, ?_⟩
        show Tight (k - cnt 2 (s.2.take k)) _
        rw [e]
        exact tight_keep r _ (by omega)
      · rw [if_neg h2]
        by_cases h1 : s.1 = 1
        · rw [if_pos h1]
          have hc : cnt s.1 s.2 = 1 := by rw [h1]; exact cnt_one _
          refine ⟨h0, by omega, ?_⟩
          rw [hc]
          exact tight_keep r _ (by omega)
        · rw [if_neg h1]
          have hc := cnt_other s.2 h2 h1
          refine ⟨h0, by omega, ?_⟩
          rw [hc]
          exact tight_keep r _ (by omega)
theorem tight_len : ∀ (M : List Seg) (k : Nat), Tight k M → plenL M = k
  | [], k, h => by simp [Tight] at h; simp [plenL, h]
  | s :: r, k, h => by
    have := tight_len r _ h.2.2
    have := h.2.1
    rw [plenL]; omega
theorem tight_again : ∀ (M : List Seg) (k : Nat) (X : List Seg), Tight k M → keepC k (M ++ X) = M
  | [], k, X, h => by
    have h : k = 0 := h
    rw [h, keepC_zero]
  | s :: r, k, X, h => by
    obtain ⟨h0, h1, h2⟩ := h
    show keepC k (s :: (r ++ X)) = _
    rw [keepC, if_neg h0]
    by_cases q2 : s.1 = 2
    · have hc : cnt s.1 s.2 = s.2.length := by rw [q2]; exact cnt_two _
      rw [if_pos q2, List.take_of_length_le (by omega), show k - min k s.2.length = k - cnt s.1 s.2 by omega, tight_again r _ X h2, ← q2]
    · rw [if_neg q2]
      by_cases q1 : s.1 = 1
      · have hc : cnt s.1 s.2 = 1 := by rw [q1]; exact cnt_one _
        rw [hc] at h2
        rw [if_pos q1, tight_again r _ X h2]
      · rw [cnt_other s.2 q2 q1, Nat.sub_zero] at h2
        rw [if_neg q1, tight_again r _ X h2]
theorem tight_join : ∀ (M : List Seg) (k : Nat) (l f : List Int) (X : List Seg), Tight k (M ++ [(2, l)]) → keepC k (M ++ (2, l ++ f) :: X) = M ++ [(2, l)]
  | [], k, l, f, X, h => by
    obtain ⟨h0, h1, h2⟩ := h
    have h2 : k - cnt 2 l = 0 := h2
    have h1 : cnt 2 l ≤ k := h1
    rw [cnt_two] at h1 h2
    have e : k = l.length := by omega
    show keepC k ((2, l ++ f) :: X) = _
    rw [keepC, if_neg h0, if_pos rfl]
    have e2 : k - min k (l ++ f).length = 0 := by simp; omega
    rw [e2, keepC_zero, e]
    simp
  | s :: r, k, l, f, X, h => by
    obtain ⟨h0, h1, h2⟩ := h
    show keepC k (s :: (r ++ (2, l ++ f) :: X)) = _
    rw [keepC, if_neg h0]
    by_cases q2 : s.1 = 2
    · have hc : cnt s.1 s.2 = s.2.length := by rw [q2]; exact cnt_two _
      rw [if_pos q2, List.take_of_length_le (by omega), show k - min k s.2.length = k - cnt s.1 s.2 by omega, tight_join r _ l f X h2, ← q2]
      rfl
    · rw [if_neg q2]
      by_cases q1 : s.1 = 1
      · have hc : cnt s.1 s.2 = 1 := by rw [q1]; exact cnt_one _
        rw [hc] at h2
        rw [if_pos q1, tight_join r _ l f X h2]
        rfl
      · rw [cnt_other s.2 q2 q1, Nat.sub_zero] at h2
        rw [if_neg q1, tight_join r _ l f X h2]
        rfl
/-- how a join comes out -/
theorem joinL_cases (M F : List Seg) : joinL M F = M ++ F ∨ ∃ M' l f r, M = M' ++ [(2, l)] ∧ F = (2, f) :: r ∧ joinL M F = M' ++ (2, l ++ f) :: r := by
  unfold joinL
  cases hm : M.getLast? with
  | none => exact .inl rfl
  | some m =>
    cases F with
    | nil => exact .inl rfl
    | cons f r =>
      show (if m.1 = 2 ∧ f.1 = 2 then _ else _) = _ ∨ _
      by_cases h : m.1 = 2 ∧ f.1 = 2
      · right
        obtain ⟨M', rfl⟩ := List.getLast?_eq_some_iff.1 hm
        refine ⟨M', m.2, f.2, r, by rw [← h.1], by rw [← h.2], ?_⟩
        show (if m.1 = 2 ∧ f.1 = 2 then (M' ++ [m]).dropLast ++ (2, m.2 ++ f.2) :: r else M' ++ [m] ++ f :: r) = M' ++ (2, m.2 ++ f.2) :: r
        rw [if_pos h, List.dropLast_concat]
      · left
        rw [if_neg h]
theorem keep_join {k : Nat} {M F : List Seg} (h : Tight k M) : keepC k (joinL M F) = M := by
  rcases joinL_cases M F with e | ⟨M', l, f, r, rfl, rfl, e⟩
  · rw [e]; exact tight_again M k F h
  · rw [e]; exact tight_join M' k l f r h
theorem plenL_join (M F : List Seg) : plenL (joinL M F) = plenL M + plenL F := by
  rcases joinL_cases M F with e | ⟨M', l, f, r, rfl, rfl, e⟩
  · rw [e, plenL_append]
  · rw [e, plenL_append, plenL_append]
    simp [plenL, cnt_two]
    omega
theorem mergeL_of {P F : List Seg} (h : plenL F ≤ plenL P) : mergeL P F = joinL (keepC (plenL P - plenL F) P) F := by unfold mergeL; rw [if_pos h]
theorem mergeL_len {P F : List Seg} (h : plenL F ≤ plenL P) : plenL (mergeL P F) = plenL P := by
  unfold mergeL
  rw [if_pos h, plenL_join, tight_len _ _ (tight_keep P (plenL P - plenL F) (by omega))]
  omega
theorem mergeL_again (P F : List Seg) : mergeL (mergeL P F) F = mergeL P F := by
  by_cases h : plenL F ≤ plenL P
  · have hl := mergeL_len h
    have e : mergeL P F = joinL (keepC (plenL P - plenL F) P) F := by unfold mergeL; rw [if_pos h]
    have e2 : mergeL (mergeL P F) F = joinL (keepC (plenL P - plenL F) (mergeL P F)) F := by
      rw [mergeL_of (P := mergeL P F) (by rw [hl]; exact h), hl]
    rw [e2, e, keep_join (tight_keep P _ (by omega))]
  · have e : mergeL P F = P := by unfold mergeL; rw [if_neg h]
    rw [e, e]
theorem mPath_again (as4 : Bool) (P : List Seg) (ag ag4 : Option Int) (F : Option (List Seg)) : mPath as4 (mPath as4 P ag F) (mAgg as4 ag ag4) F = mPath as4 P ag F := by
  unfold mPath mAgg
  cases as4
  · cases hs : stale ag
    · cases hs2 : stale (fAgg ag ag4)
      · simp [hs2]
        cases F with
        | none => rfl
        | some F => exact mergeL_again P F
      · simp [hs2]
    · simp [hs]
  · simp
theorem mAgg_again (as4 : Bool) (ag ag4 : Option Int) : mAgg as4 (mAgg as4 ag ag4) ag4 = mAgg as4 ag ag4 := by
  unfold mAgg
  cases as4
  · cases hs : stale ag
    · cases hs2 : stale (fAgg ag ag4)
      · simp [hs2]
        cases ag4 <;> rfl
      · simp [hs2]
    · simp [hs]
  · simp
/-- the numbers of all segments in order -/
def flatL (S : List Seg) : List Int := S.flatMap (fun s => s.2)
theorem flatL_append (A B : List Seg) : flatL (A ++ B) = flatL A ++ flatL B := by simp [flatL]
theorem flatL_join (M F : List Seg) : flatL (joinL M F) = flatL M ++ flatL F := by
  rcases joinL_cases M F with e | ⟨M', l, f, r, rfl, rfl, e⟩
  · rw [e, flatL_append]
  · rw [e]; simp [flatL]
theorem flatL_keep : ∀ (P : List Seg) (k : Nat), ∃ m, flatL (keepC k P) = (flatL P).take m ∧ m ≤ (flatL P).length
  | [], k => ⟨0, by simp [keepC, flatL], Nat.zero_le _⟩
  | s :: r, k => by
    have fl : flatL (s :: r) = s.2 ++ flatL r := by simp [flatL]
    have go : ∀ k', ∃ m, s.2 ++ flatL (keepC k' r) = (s.2 ++ flatL r).take m ∧ m ≤ (s.2 ++ flatL r).length := fun k' => by
      obtain ⟨m, h1, h2⟩ := flatL_keep r k'
      refine ⟨s.2.length + m, ?_, by simp; omega⟩
      rw [h1, List.take_length_add_append]
    rw [keepC, fl]
    by_cases h0 : k = 0
    · rw [if_pos h0]; exact ⟨0, by simp [flatL], Nat.zero_le _⟩
    · rw [if_neg h0]
      by_cases h2 : s.1 = 2
      · rw [if_pos h2]
        by_cases h3 : k ≤ s.2.length
        · refine ⟨k, ?_, by simp; omega⟩
          have e : k - min k s.2.length = 0 := by omega
          rw [e, keepC_zero, List.take_append_of_le_length h3]
          simp [flatL]
        · rw [List.take_of_length_le (by omega)]
          obtain ⟨m, h4, h5⟩ := go (k - min k s.2.length)
          exact ⟨m, by rw [← h4]; simp [flatL], h5⟩
      · rw [if_neg h2]
        by_cases h1 : s.1 = 1
        · rw [if_pos h1]
          obtain ⟨m, h4, h5⟩ := go (k - 1)
          exact ⟨m, by rw [← h4]; simp [flatL], h5⟩
        · rw [if_neg h1]
          obtain ⟨m, h4, h5⟩ := go k
          exact ⟨m, by rw [← h4]; simp [flatL], h5⟩
/-! ### how large it grows -/
theorem keepC_fits : ∀ (P : List Seg) (k : Nat), (keepC k P).length ≤ P.length ∧ ∀ s ∈ keepC k P, ∃ t ∈ P, s.2.length ≤ t.2.length
  | [], k => by simp [keepC]
  | s :: r, k => by
    rw [keepC]
    by_cases h0 : k = 0
    · rw [if_pos h0]; simp
    · rw [if_neg h0]
      have go : ∀ (x : Seg) k', x.2.length ≤ s.2.length → (x :: keepC k' r).length ≤ (s :: r).length ∧ ∀ y ∈ x :: keepC k' r, ∃ t ∈ s :: r, y.2.length ≤ t.2.length := fun x k' hx => by
        obtain ⟨h1, h2⟩ := keepC_fits r k'
        refine ⟨by simp; omega, fun y hy => ?_⟩
        rcases List.mem_cons.1 hy with rfl | hy
        · exact ⟨s, List.mem_cons_self, hx⟩
        · obtain ⟨t, ht, hl⟩ := h2 y hy
          exact ⟨t, List.mem_cons_of_mem _ ht, hl⟩
      by_cases h2 : s.1 = 2
      · rw [if_pos h2]; exact go _ _ (by simp; omega)
      · rw [if_neg h2]
        by_cases h1 : s.1 = 1
        · rw [if_pos h1]; exact go _ _ (Nat.le_refl _)
        · rw [if_neg h1]; exact go _ _ (Nat.le_refl _)
theorem joinL_fits {K L : Nat} {M F : List Seg} (hM : Fits K M) (hF : Fits L F) : Fits (K + L) (joinL M F) := by
  rcases joinL_cases M F with e | ⟨M', l, f, r, rfl, rfl, e⟩
  · rw [e]
    refine ⟨by have := hM.1; have := hF.1; simp; omega, fun s hs => ?_⟩
    rcases List.mem_append.1 hs with h | h
    · have := hM.2 s h; omega
    · have := hF.2 s h; omega
  · rw [e]
    have h1 := hM.1
    have h2 := hF.1
    refine ⟨by simp at h1 h2 ⊢; omega, fun s hs => ?_⟩
    rcases List.mem_append.1 hs with h | h
    · have := hM.2 s (List.mem_append_left _ h); omega
    · rcases List.mem_cons.1 h with rfl | h
      · have h3 := hM.2 (2, l) (by simp)
        have h4 := hF.2 (2, f) (by simp)
        simp at h3 h4 ⊢; omega
      · have := hF.2 s (List.mem_cons_of_mem _ h); omega
theorem mergeL_fits {K L : Nat} {P F : List Seg} (hP : Fits K P) (hF : Fits L F) : Fits (K + L) (mergeL P F) := by
  unfold mergeL
  split
  · obtain ⟨h1, h2⟩ := keepC_fits P (plenL P - plenL F)
    refine joinL_fits ⟨Nat.le_trans h1 hP.1, fun s hs => ?_⟩ hF
    obtain ⟨t, ht, hl⟩ := h2 s hs
    exact Nat.le_trans hl (hP.2 t ht)
  · exact ⟨by have := hP.1; omega, fun s hs => by have := hP.2 s hs; omega⟩
theorem joinL_length (M F : List Seg) : (joinL M F).length ≤ M.length + F.length := by
  rcases joinL_cases M F with e | ⟨M', l, f, r, rfl, rfl, e⟩
  · rw [e]; simp
  · rw [e]; simp

end Go.Proofs.Qxb6614704aMods
