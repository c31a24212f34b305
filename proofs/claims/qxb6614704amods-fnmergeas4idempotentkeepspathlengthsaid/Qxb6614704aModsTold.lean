/-
  ZZmergeAS4; what the laws' own functions hold beside the decoders.
-/
import Derived.Test.Qxb6614704aModsMerge
import Derived.Test.Qxb6614704aModsModl
namespace Go.Proofs.Qxb6614704aMods
open Go.RowKit

set_option maxHeartbeats 1600000 in
theorem zzmerge_any (ba bd : Nat) (as4 : Bool) (P : List Seg) (ag ag4 : Option Int) (F : Option (List Seg)) (w : World) (hd : Dec w ba bd as4 P ag ag4 F) (hP : Fits 2097152 P) (hF : Fits 1048576 (F.getD [])) :
    Calls Trym.prog 19 #[.pointer (some ⟨bd, 0, none⟩)] w fun e w' => e = .returned (.tuple #[]) ∧ Dec w' ba bd as4 (mPath as4 P ag F) (mAgg as4 ag ag4) ag4 F ∧ Below ba w w' := by
  go_enter Trym.func19, Trym.ntmps19
  go_wp2_with fail
  refine (merge_any ba bd as4 P ag ag4 F w hd hP hF).mono ?_
  rintro e w' ⟨rfl, h⟩
  go_wp2_with fail
  go_end0
  exact ⟨rfl, h⟩

theorem plen_congr {ty ty' : Nat → Int} {zs zs' : Nat → List Int} : ∀ n, (∀ i, i < n → ty i = ty' i) → (∀ i, i < n → zs i = zs' i) → plen ty zs n = plen ty' zs' n
  | 0, _, _ => rfl
  | n + 1, h1, h2 => by rw [plen, plen, plen_congr n (fun i hi => h1 i (by omega)) (fun i hi => h2 i (by omega)), h1 n (by omega), h2 n (by omega)]
theorem plen_segs (n : Nat) (ty : Nat → Int) (zs : Nat → List Int) : plen ty zs n = plenL (segsOf n ty zs) := by
  have h := plen_all (segsOf n ty zs)
  rw [segsOf_length] at h
  rw [← h]
  exact plen_congr n (fun i hi => by rw [tyL, segsOf_getD n ty zs hi]) (fun i hi => by rw [zsL, segsOf_getD n ty zs hi])
theorem U8At.congr {w : World} {ao : Option Addr} {n : Nat} {ty ty' : Nat → Int} (h : U8At w ao n ty) (h1 : ∀ i, i < n → ty i = ty' i) : U8At w ao n ty' := by
  rcases h with h | ⟨b, off, e, h⟩
  · exact .inl h
  · exact .inr ⟨b, off, e, fun i hi => by rw [← h1 i hi]; exact h i hi⟩
theorem RowsAt.congr {w : World} {ao : Option Addr} {n : Nat} {zs zs' : Nat → List Int} (h : RowsAt w ao n zs) (h1 : ∀ i, i < n → zs i = zs' i) : RowsAt w ao n zs' := by
  rcases h with h | ⟨b, off, e, h⟩
  · exact .inl h
  · exact .inr ⟨b, off, e, fun i hi => by rw [← h1 i hi]; exact h i hi⟩
/-- two slices that tell the path P -/
def Told (w : World) (P : List Seg) (t a : Value) : Prop := ∃ b1 c1 b2 c2, t = .slice b1 P.length c1 ∧ a = .slice b2 P.length c2 ∧ U8At w b1 P.length (tyL P) ∧ RowsAt w b2 P.length (zsL P)
theorem Told.later {w w' : World} {P : List Seg} {t a : Value} (h : Told w P t a) (hb : Below w.heap.size w w') : Told w' P t a := by
  obtain ⟨b1, c1, b2, c2, e1, e2, h1, h2⟩ := h
  exact ⟨b1, c1, b2, c2, e1, e2, h1.later (Nat.le_refl _) hb, h2.later (Nat.le_refl _) hb⟩
theorem told_segs {w : World} {b1 b2 : Option Addr} {n c1 c2 : Nat} {ty : Nat → Int} {zs : Nat → List Int} (h1 : U8At w b1 n ty) (h2 : RowsAt w b2 n zs) : Told w (segsOf n ty zs) (.slice b1 n c1) (.slice b2 n c2) := by
  refine ⟨b1, c1, b2, c2, by rw [segsOf_length], by rw [segsOf_length], ?_, ?_⟩
  · rw [segsOf_length]
    exact h1.congr (fun i hi => by rw [tyL, segsOf_getD n ty zs hi])
  · rw [segsOf_length]
    exact h2.congr (fun i hi => by rw [zsL, segsOf_getD n ty zs hi])
theorem Two.told {w0 w : World} {t a : Value} {R : List Ent} (h : Two w0 w t a R R) : Told w (R.map segOf) t a := by
  obtain ⟨b1, c1, rfl, _, _, h1⟩ := owns_slice h.ot
  obtain ⟨b2, c2, rfl, _, _, h2⟩ := owns_slice h.oa
  have hg : ∀ i (hi : i < R.length), (R.map segOf).getD i (0, []) = segOf R[i] := fun i hi => by simp [List.getD, hi]
  refine ⟨b1, c1, b2, c2, by rw [List.length_map], by rw [List.length_map], ?_, ?_⟩
  · rw [List.length_map]
    rcases h1 with h1 | ⟨g, e, _, _, _, hc⟩
    · exact .inl h1
    · refine .inr ⟨g, 0, e, fun i hi => ?_⟩
      rw [tyL, hg i hi]
      exact hc i _ (by simp [typsOf, segOf, hi])
  · rw [List.length_map]
    rcases h2 with h2 | ⟨g, e, _, _, _, hc⟩
    · exact .inl h2
    · refine .inr ⟨g, 0, e, fun i hi => ?_⟩
      have hgood := h.good R[i] (List.getElem_mem hi) w (fun k _ _ _ => rfl)
      rw [zsL, hg i hi]
      exact ⟨R[i].2.2.1, R[i].2.2.2, hc i _ (by simp [valsOf, valOf, segOf, hi]), hgood.le, hgood.top, hgood.asns, hgood.nil⟩
/-- two slots that tell the aggregator -/
def ToldA (ag : Option Int) (b z : Value) : Prop := b = .bool ag.isSome ∧ ∃ y, z = .int .u32 y ∧ ∀ x, ag = some x → x = y
theorem toldA_of (has : Bool) (z : Int) : ToldA (aggOf has z) (.bool has) (.int .u32 z) := by
  cases has
  · exact ⟨rfl, z, rfl, fun x h => by cases h⟩
  · exact ⟨rfl, z, rfl, fun x h => by injection h with h; exact h.symm⟩
theorem Fits.up {K L : Nat} {S : List Seg} (h : Fits K S) (hl : K ≤ L) : Fits L S := ⟨Nat.le_trans h.1 hl, fun s hs => Nat.le_trans (h.2 s hs) hl⟩
theorem four_fits {a7 : Option Addr} {K : Nat} {S : List Seg} (h : Fits K S) : Fits K ((fourOf a7 S).getD []) := by
  cases a7 with
  | none => exact ⟨Nat.zero_le _, fun s hs => by cases hs⟩
  | some a => exact h
theorem mPath_fits {as4 : Bool} {K L : Nat} {P : List Seg} {ag : Option Int} {F : Option (List Seg)} (hP : Fits K P) (hF : Fits L (F.getD [])) : Fits (K + L) (mPath as4 P ag F) := by
  unfold mPath
  split
  · exact hP.up (by omega)
  · cases F with
    | none => exact hP.up (by omega)
    | some F => exact mergeL_fits hP hF
theorem mod_merge {n m : Nat} {ty ty' : Nat → Int} {zs zs' : Nat → List Int} (h : plenL (segsOf m ty' zs') ≤ plenL (segsOf n ty zs)) :
    joinL (modC (plenL (segsOf n ty zs) - plenL (segsOf m ty' zs')) 0 (segsOf n ty zs)) (segsOf m ty' zs') = mergeL (segsOf n ty zs) (segsOf m ty' zs') := by
  unfold mergeL
  rw [if_pos h, modC_keep, Nat.sub_zero]
theorem plen_top {n : Nat} (ty : Nat → Int) {zs : Nat → List Int} (h : Small n zs) : plenL (segsOf n ty zs) ≤ 1099511627776 := by
  have h1 := plenL_le (K := 1048576) (segs_fits ty h).2 (by omega)
  rw [segsOf_length] at h1
  have h2 : n * 1048576 ≤ 1048576 * 1048576 := Nat.mul_le_mul_right _ h.1
  exact Nat.le_trans h1 h2
end Go.Proofs.Qxb6614704aMods
