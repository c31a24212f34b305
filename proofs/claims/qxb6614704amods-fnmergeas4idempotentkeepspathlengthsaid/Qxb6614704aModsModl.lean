/-
  What the model's walk needs of its two rows.
-/
import Derived.Test.Qxb6614704aModsTwo
namespace Go.Proofs.Qxb6614704aMods
open Go.RowKit

/-- how much of a segment the model takes -/
def tkOf (keep ah : Nat) (t : Int) (l : List Int) : Nat := if t = 2 ∧ keep - ah < l.length then keep - ah else l.length
def modE (keep ah : Nat) (t : Int) (l : List Int) : List Seg := if ah < keep then [(t, l.take (tkOf keep ah t l))] else []
theorem tkOf_le (keep ah : Nat) (t : Int) (l : List Int) : tkOf keep ah t l ≤ l.length := by
  unfold tkOf
  split
  · omega
  · exact Nat.le_refl _
theorem modE_pos {keep ah : Nat} (t : Int) (l : List Int) (h : ah < keep) : modE keep ah t l = [(t, l.take (tkOf keep ah t l))] := by rw [modE, if_pos h]
theorem modE_neg {keep ah : Nat} (t : Int) (l : List Int) (h : ¬ ah < keep) : modE keep ah t l = [] := by rw [modE, if_neg h]
theorem modC_drop (keep ah : Nat) {n i : Nat} (ty : Nat → Int) (zs : Nat → List Int) (h : i < n) :
    modC keep ah ((segsOf n ty zs).drop i) = modE keep ah (ty i) (zs i) ++ modC keep (ah + cnt (ty i) (zs i)) ((segsOf n ty zs).drop (i + 1)) := by
  have hl : i < (segsOf n ty zs).length := by rw [segsOf_length]; exact h
  have e : (segsOf n ty zs)[i] = (ty i, zs i) := by
    have := segsOf_getD n ty zs h
    rw [List.getD, List.getElem?_eq_getElem hl] at this
    exact this
  rw [List.drop_eq_getElem_cons hl, e, modC]
  congr 1
  unfold modE tkOf
  by_cases h1 : ah < keep
  · rw [if_pos h1, if_pos h1]
    by_cases h2 : ty i = 2 ∧ keep - ah < (zs i).length
    · rw [if_pos h2, if_pos h2]
    · rw [if_neg h2, if_neg h2, List.take_length]
  · rw [if_neg h1, if_neg h1]
theorem mod_next {keep ah ah' : Nat} {n i : Nat} {ty : Nat → Int} {zs : Nat → List Int} {L : List Seg} {R R' : List Ent} (h : i < n) (hk : L = R.map segOf ++ modC keep ah ((segsOf n ty zs).drop i)) (hr : R'.map segOf = R.map segOf ++ modE keep ah (ty i) (zs i)) (ha : ah' = ah + cnt (ty i) (zs i)) :
    L = R'.map segOf ++ modC keep ah' ((segsOf n ty zs).drop (i + 1)) := by
  rw [hk, modC_drop keep ah ty zs h, hr, ha, List.append_assoc]

theorem owns_later {w w' : World} {base n : Nat} {t : TypeId} {v : Value} {xs : List Value} (h : w.ownsRow base t 1 v n xs) (e : ∀ q, v.ownBlock = some q → w'.heap[q]? = w.heap[q]?) : w'.ownsRow base t 1 v n xs := by
  refine ⟨h.1, ?_⟩
  rcases h.2 with h0 | ⟨g, cap, cur, hv, hb, hg, r⟩
  · exact .inl h0
  · exact .inr ⟨g, cap, cur, hv, hb, (e g (by rw [hv]; rfl)).trans hg, r⟩
theorem Two.later {w0 w1 w2 : World} {tv av : Value} {T R : List Ent} (h : Two w0 w1 tv av T R) (hb : Below w1.heap.size w1 w2) : Two w0 w2 tv av T R := by
  have hs := h.below.size
  have hs2 := hb.size
  refine ⟨owns_later h.ot (fun q hq => hb.block q (own_row h.ot q hq).2), owns_later h.oa (fun q hq => hb.block q (own_row h.oa q hq).2), h.ne, fun e he W hW => ?_, h.below.trans (hb.mono hs)⟩
  exact h.good e he W (fun k h1 h2 h3 => (hW k (by omega) h2 h3).trans (hb.block k h1))
theorem Two.swap {w0 w1 : World} {tv av : Value} {T T' R : List Ent} (h : Two w0 w1 tv av T R) (e : typsOf T' = typsOf T) : Two w0 w1 tv av T' R := by
  have hl : T'.length = T.length := by
    have := congrArg List.length e
    simpa [typsOf] using this
  refine ⟨?_, h.oa, h.ne, h.good, h.below⟩
  rw [e, hl]
  exact h.ot
/-- numbers that were made since are apart from both rows -/
theorem Two.fresh {w0 w1 w2 : World} {tv av : Value} {T R : List Ent} {t : Int} {l : List Int} {bo : Option Addr} {c : Nat} (h : Two w0 w1 tv av T R) (ha : AsnsIn w2 w1.heap.size bo l) (hc : l.length ≤ c) (hm : c ≤ maxLen) (hn : bo = none → c = 0) :
    ∀ W : World, But2 w2 W tv av → Good W (t, l, bo, c) := fun W hW => by
  refine ⟨hc, hm, ?_, hn⟩
  rcases ha with h0 | ⟨b, off, e, hb, hcell⟩
  · exact .inl h0
  · refine .inr ⟨b, off, e, fun j hj => (World.cell?_of_block (hW b (cell_lt (hcell j hj)) ?_ ?_)).trans (hcell j hj)⟩
    · intro e1
      have := (own_row h.ot _ e1.symm).2
      omega
    · intro e1
      have := (own_row h.oa _ e1.symm).2
      omega
theorem owns_slice {w : World} {base n : Nat} {t : TypeId} {v : Value} {xs : List Value} (h : w.ownsRow base t 1 v n xs) : ∃ bo bc, v = .slice bo n bc ∧ n ≤ bc ∧ bc ≤ maxLen ∧ (n = 0 ∨ ∃ g, bo = some ⟨g, 0, none⟩ ∧ base ≤ g ∧ g < w.heap.size ∧ (∀ o, w.frozen? ⟨g, o, none⟩ = false) ∧ ∀ j u, xs[j]? = some u → w.cell? ⟨g, 0 + j, none⟩ = some u) := by
  rcases h.2 with ⟨e, h0⟩ | ⟨g, cap, cur, e, hb, hg, h1, h2, _⟩
  · exact ⟨none, 0, by rw [e, h0], by omega, by unfold maxLen; omega, .inl h0⟩
  · refine ⟨_, cap, e, h1, h2, .inr ⟨g, rfl, hb, (Array.getElem?_eq_some_iff.1 hg).1, fun o => by simp [World.frozen?, hg], fun j u hu => ?_⟩⟩
    have hb' : v.ownBlock = some g := by rw [e]; rfl
    have := World.ownsRow.cells h hb' j u hu
    rw [Addr.add_lit] at this
    exact this
theorem newsT (w : World) (t : TypeId) (a : Value) : ∀ j u, [a][j]? = some u → (w.alloc (.cells #[a] t)).cell? ((⟨w.heap.size, 0, none⟩ : Addr).add j) = some u := by
  intro j u hu
  exact World.news_of_block (cs := #[a]) (heap_alloc_new w (.cells #[a] t)) j u hu
theorem owns_put {w : World} {base g n cap : Nat} {t : TypeId} {xs : List Value} (h : w.ownsRow base t 1 (.slice (some ⟨g, 0, none⟩) n cap) n xs) (j : Nat) (v : Value) : (w.setCell ⟨g, j, none⟩ v).ownsRow base t 1 (.slice (some ⟨g, 0, none⟩) n cap) n (xs.set j v) := by
  refine ⟨by simpa using h.1, .inr ?_⟩
  rcases h.2 with ⟨h0, _⟩ | ⟨g', cap', cur, hv, hb, hg, hc1, hc2, hsz, htk⟩
  · cases h0
  · have hv' := hv
    simp only [Value.slice.injEq, Option.some.injEq, Addr.mk.injEq] at hv'
    obtain ⟨⟨rfl, _⟩, _, rfl⟩ := hv'
    refine ⟨g, cap, cur.setIfInBounds j v, rfl, hb, ?_, hc1, hc2, by simpa using hsz, ?_⟩
    · simp [World.setCell, Array.getElem?_modify, hg]
    · rw [Array.toList_setIfInBounds, List.take_set, htk]
theorem Own32.full {w : World} {K : Nat} {v : Value} {l : List Int} (h : Own32 w K v l) : ∃ bo bc, v = .slice bo l.length bc ∧ AsnsIn w K bo l ∧ l.length ≤ bc ∧ bc ≤ maxLen ∧ (bo = none → bc = 0) := by
  obtain ⟨bo, bc, e, h1, h2, h3⟩ := h.form
  refine ⟨bo, bc, e, h1, h2, h3, fun hn => ?_⟩
  rcases h.2 with ⟨e2, h0⟩ | ⟨g, cap, cur, e2, _⟩
  · rw [e] at e2
    simp only [Value.slice.injEq] at e2
    exact e2.2.2
  · rw [e, hn] at e2
    simp at e2
/-- the last numbers are put in anew, longer -/
theorem Two.join {w0 w1 w3 : World} {tv v : Value} {g r cap : Nat} {M : List Ent} {e : Ent} {l : List Int} (h : Two w0 w1 tv (.slice (some ⟨g, 0, none⟩) r cap) (M ++ [e]) (M ++ [e])) (hr : r = M.length + 1) (ho : Own32 w3 w1.heap.size v l) (hb : Below w1.heap.size w1 w3) :
    ∃ e' : Ent, segOf e' = (e.1, l) ∧ Two w0 (w3.setCell ⟨g, r - 1, none⟩ v) tv (.slice (some ⟨g, 0, none⟩) r cap) (M ++ [e']) (M ++ [e']) := by
  obtain ⟨bo, bc, rfl, ha, hc1, hc2, hc3⟩ := ho.full
  have hlen : ∀ e' : Ent, (M ++ [e']).length = r := fun e' => by rw [hr]; simp
  have hg := own_row h.oa g rfl
  have h3 := h.later hb
  have hne : ∀ q, tv.ownBlock = some q → q ≠ g := fun q hq e => h.ne q hq (by rw [e]; rfl)
  refine ⟨(e.1, l, bo, bc), rfl, ?_, ?_, h.ne, ?_, ?_⟩
  · have h4 := owns_later (w' := w3.setCell ⟨g, r - 1, none⟩ (.slice bo l.length bc)) h3.ot (fun q hq => Below.heap_setCell _ _ _ _ (hne q hq))
    rw [hlen] at h4 ⊢
    have e1 : typsOf (M ++ [(e.1, l, bo, bc)]) = typsOf (M ++ [e]) := by simp [typsOf]
    rw [e1]
    exact h4
  · have h4 := h3.oa
    rw [hlen] at h4 ⊢
    have h5 := owns_put h4 (r - 1) (.slice bo l.length bc)
    have e1 : valsOf (M ++ [(e.1, l, bo, bc)]) = (valsOf (M ++ [e])).set (r - 1) (.slice bo l.length bc) := by
      rw [hr]
      simp [valsOf, valOf]
    rw [e1]
    exact h5
  · have hW' : ∀ W : World, But2 (w3.setCell ⟨g, r - 1, none⟩ (.slice bo l.length bc)) W tv (.slice (some ⟨g, 0, none⟩) r cap) → But2 w3 W tv (.slice (some ⟨g, 0, none⟩) r cap) := fun W hW k h1 h2 h3 => by
      refine (hW k (by simpa using h1) h2 h3).trans (Below.heap_setCell _ _ _ _ (fun e => h3 ?_))
      rw [e]; rfl
    intro x hx W hW
    rcases List.mem_append.1 hx with hx | hx
    · exact h3.good x (List.mem_append_left _ hx) W (hW' W hW)
    · rw [List.mem_singleton.1 hx]
      exact h.fresh ha hc1 hc2 hc3 W (hW' W hW)
  · exact h3.below.setCell hg.1 _
theorem segs_drop {m j : Nat} (ty : Nat → Int) (zs : Nat → List Int) (h : j < m) : (segsOf m ty zs).drop j = (ty j, zs j) :: (segsOf m ty zs).drop (j + 1) := by
  have hl : j < (segsOf m ty zs).length := by rw [segsOf_length]; exact h
  have e : (segsOf m ty zs)[j] = (ty j, zs j) := by
    have := segsOf_getD m ty zs h
    rw [List.getD, List.getElem?_eq_getElem hl] at this
    exact this
  rw [List.drop_eq_getElem_cons hl, e]
/-- the kind of the last entry -/
def lastTy (R : List Ent) : Int := match R.getLast? with | some e => e.1 | none => 0
/-- two sequences meet -/
def meets (R : List Ent) (m : Nat) (t0 : Int) : Bool := decide (0 < R.length) && (lastTy R == 2) && decide (0 < m) && (t0 == 2)
theorem meets_nil {R : List Ent} {m : Nat} {t0 : Int} (h : ¬ 0 < R.length) : meets R m t0 = false := by simp [meets, h]
theorem typsOf_last {R : List Ent} {r : Nat} (h : 0 < R.length) (hr : r = R.length) : (typsOf R)[r - 1]? = some (.int .u8 (lastTy R)) := by
  subst hr
  rcases List.eq_nil_or_concat R with rfl | ⟨M, e, rfl⟩
  · cases h
  · simp [typsOf, lastTy]
theorem meets_true {R : List Ent} {m : Nat} {t0 : Int} (h : meets R m t0 = true) : ∃ M e, R = M ++ [e] ∧ e.1 = 2 ∧ 0 < m ∧ t0 = 2 := by
  unfold meets at h
  simp only [Bool.and_eq_true, decide_eq_true_eq, beq_iff_eq] at h
  obtain ⟨⟨⟨h1, h2⟩, h3⟩, h4⟩ := h
  rcases List.eq_nil_or_concat R with rfl | ⟨M, e, rfl⟩
  · cases h1
  · refine ⟨M, e, by simp, ?_, h3, h4⟩
    simpa [lastTy] using h2
theorem join_apart {R : List Ent} {m : Nat} {ty : Nat → Int} {zs : Nat → List Int} (h : meets R m (ty 0) = false) : joinL (R.map segOf) (segsOf m ty zs) = R.map segOf ++ segsOf m ty zs := by
  refine joinL_plain (fun M' s f r h1 h2 h3 => ?_)
  have hm : 0 < m := by
    have := congrArg List.length h2
    rw [segsOf_length] at this
    simp at this
    omega
  have hf : f = (ty 0, zs 0) := by
    have := segs_drop ty zs hm
    rw [List.drop_zero, h2] at this
    exact (List.cons.inj this).1
  rcases List.eq_nil_or_concat R with rfl | ⟨M, e, rfl⟩
  · simp at h1
  · have hs : s = segOf e := by
      rw [List.concat_eq_append, List.map_append] at h1
      exact ((List.append_inj' h1 rfl).2 |> List.cons.inj |>.1).symm
    rw [hs, hf] at h3
    have h31 : e.1 = 2 := h3.1
    have h32 : ty 0 = 2 := h3.2
    simp [meets, lastTy, hm, h31, h32] at h
theorem join_met {M : List Ent} {e e' : Ent} {m : Nat} {ty : Nat → Int} {zs : Nat → List Int} (he : e.1 = 2) (hm : 0 < m) (h0 : ty 0 = 2) (h' : segOf e' = (e.1, e.2.1 ++ zs 0)) :
    joinL ((M ++ [e]).map segOf) (segsOf m ty zs) = (M ++ [e']).map segOf ++ (segsOf m ty zs).drop 1 := by
  have h1 := segs_drop ty zs hm
  rw [List.drop_zero] at h1
  have h2 : (M ++ [e]).map segOf = M.map segOf ++ [(2, e.2.1)] := by rw [List.map_append]; simp [segOf, he]
  rw [h2, h1, h0, joinL_one, List.map_append, List.append_assoc]
  congr 1
  show _ = [segOf e'] ++ (List.drop 1 _)
  rw [h', he]
  rfl
theorem segs_fits {n : Nat} (ty : Nat → Int) {zs : Nat → List Int} (h : Small n zs) : Fits 1048576 (segsOf n ty zs) := by
  refine ⟨by rw [segsOf_length]; exact h.1, fun s hs => ?_⟩
  obtain ⟨i, hi, rfl⟩ := List.mem_map.1 hs
  exact h.2 i (List.mem_range.1 hi)
theorem mod_small {keep n : Nat} {ty : Nat → Int} {zs : Nat → List Int} {R : List Ent} (h : Small n zs) (hR : R.map segOf = modC keep 0 (segsOf n ty zs)) {e : Ent} (he : e ∈ R) : e.2.1.length ≤ 1048576 := by
  have h1 : segOf e ∈ modC keep 0 (segsOf n ty zs) := by rw [← hR]; exact List.mem_map_of_mem he
  rw [modC_keep] at h1
  obtain ⟨t, ht, hl⟩ := (keepC_fits (segsOf n ty zs) _).2 _ h1
  exact Nat.le_trans hl ((segs_fits ty h).2 t ht)
/-- It returned two rows of those segments. -/
def RetTwo (e : Ending) (w0 w' : World) (L : List Seg) : Prop := ∃ t a R, e = .returned (.tuple #[t, a]) ∧ R.map segOf = L ∧ Two w0 w' t a R R
end Go.Proofs.Qxb6614704aMods
