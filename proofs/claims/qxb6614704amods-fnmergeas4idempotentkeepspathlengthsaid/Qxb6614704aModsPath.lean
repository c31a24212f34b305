/-
  zzB1Path.
-/
import Derived.Test.Qxb6614704aModsMem
namespace Go.Proofs.Qxb6614704aMods
open Go.RowKit

theorem seg_made (n : Nat) : ∀ i, i < n → ∀ j, j < 2 → (madeCells (Value.agg #[.int .u8 0, .slice none 0 0]).cells (n * 2)).toList[i * 2 + j]? = some (if j = 0 then .int .u8 0 else .slice none 0 0) := by
  intro i hi j hj
  have hc : (Value.agg #[.int .u8 0, .slice none 0 0]).cells = #[.int .u8 0, .slice none 0 0] := rfl
  rw [hc]
  have hlt : i * 2 + j < n * 2 := by omega
  have hm : (i * 2 + j) % 2 = j := by omega
  simp [madeCells, hlt, hm]
  rcases j with _ | _ | j
  · rfl
  · rfl
  · omega

/-- It returned a path that is not nil, all in new memory. -/
def RetPath (e : Ending) (w w' : World) (n : Nat) (ty : Nat → Int) (zs : Nat → List Int) : Prop :=
  ∃ b, e = .returned (.slice (some ⟨b, 0, none⟩) n n) ∧ w.heap.size ≤ b ∧ b < w'.heap.size ∧ ∀ w2 : World, (∀ k, w.heap.size ≤ k → k < w'.heap.size → w2.heap[k]? = w'.heap[k]?) → PathAt w2 (some ⟨b, 0, none⟩) n ty zs

/-- the cells of the row while it is being filled -/
def segF (ty : Nat → Int) (V : Nat → Value) (k : Nat) (i j : Nat) : Value := if i < k then (if j = 0 then .int .u8 (ty i) else V i) else (if j = 0 then .int .u8 0 else .slice none 0 0)

set_option maxRecDepth 100000 in
set_option maxHeartbeats 3200000 in
theorem zzB1Path_any (a0 a1 : Option Addr) (n c0 c1 : Nat) (ty : Nat → Int) (zs : Nat → List Int) (w : World) (h0 : U8At w a0 n ty) (h1 : RowsAt w a1 n zs) (hs : Small n zs) :
    Calls Trym.prog 32 #[.slice a0 n c0, .slice a1 n c1] w fun e w' => RetPath e w w' n ty zs ∧ Below w.heap.size w w' := by
  obtain ⟨i0, hi, hz0, hz1, hz2⟩ := info_parts info89
  have hn := hs.1
  have HS : Hid (Small n zs) := hs
  have HU : Hid (U8At w a0 n ty) := h0
  have HZ : Hid (RowsAt w a1 n zs) := h1
  clear hs h0 h1
  go_enter Trym.func32, Trym.ntmps32
  go_wp2_with (first | (refine wpList_make_full _ rfl _ _ 53 rfl w.heap.size 89 i0 _ 2 Trym.underlying53 hi hz0 hz1 .i64 .i64 n n n rfl rfl rfl rfl (by rw [hz2]; omega) (by unfold maxLen; omega) (Nat.le_refl _) ?_; intro wm hownm hgrm) | go_in)
  have HROW : Hid (Row2 wm w.heap.size n (segF ty (fun _ => undef) 0)) := (row2_of_owned _ hownm (seg_made n)).congr (fun i _ j _ => by simp [segF])
  have HBM : Hid (Below w.heap.size w wm) := (Below.refl _ _).grown hgrm (Nat.le_refl _) (fun k h => by cases h)
  clear hownm hgrm
  go_wp2
  go_loopw [12] (fun i wr => ∃ (k : Nat) (V : Nat → Value), k ≤ n ∧ i = .int .i64 k ∧ Row2 wr w.heap.size n (segF ty V k) ∧ (∀ i, i < k → ∃ xo xc, V i = .slice xo (zs i).length xc ∧ (zs i).length ≤ xc ∧ xc ≤ maxLen ∧ AsnsIn wr (w.heap.size + 1) xo (zs i) ∧ (xo = none → xc = 0)) ∧ Below w.heap.size w wr) (fun i _ => n - (intOf i).toNat)
  case atStart => exact ⟨0, fun _ => undef, by omega, rfl, HROW.out, fun i hi => by omega, HBM.out⟩
  case round =>
    obtain ⟨k, V, hk, rfl, hrow, hV, hbel⟩ := hrel
    by_cases hlt : k < n
    · obtain ⟨b0, off0, e0, s0⟩ := HU.out.at hlt
      obtain ⟨b, off, xo, xc, e, s1, c2, c3, c4, c5⟩ := HZ.out.at hlt
      subst e0; subst e
      have t0 := (hbel.cell (p := ⟨b0, off0 + k, none⟩) (cell_lt s0)).trans s0
      have t1 := (hbel.cell (p := ⟨b, off + k, none⟩) (cell_lt s1)).trans s1
      have l0 : b0 < w.heap.size := cell_lt s0
      have l1 : b < w.heap.size := cell_lt s1
      have f0 := hrow.frozen (k * 2)
      have f1 := hrow.frozen (k * 2 + 1)
      have r0 := hrow.cell hlt (j := 0) (by omega)
      have r1 := hrow.cell hlt (j := 1) (by omega)
      have HA : Hid (AsnsF wr xo (zs k)) := c4.later (Nat.le_refl _) hbel
      have HR : Hid (Row2 wr w.heap.size n (segF ty V k)) := hrow
      have HV : Hid (∀ i, i < k → ∃ xo xc, V i = .slice xo (zs i).length xc ∧ (zs i).length ≤ xc ∧ xc ≤ maxLen ∧ AsnsIn wr (w.heap.size + 1) xo (zs i) ∧ (xo = none → xc = 0)) := hV
      have HB : Hid (Below w.heap.size w wr) := hbel
      have hwr : w.heap.size < wr.heap.size := hrow.lt
      have hsz := HS.out.2 k hlt
      have hki : (k : Int) < (n : Int) := by omega
      clear s0 s1 c4 c5 hrow hV hbel
      go_wp2
      refine wp_region_held_drew (S := (fun w' : World => w'.cell? ⟨b0, off0 + k, none⟩ = some (.int .u8 (ty k)) ∧ w'.cell? ⟨b, off + k, none⟩ = some (.slice xo (zs k).length xc))) (by kernel_rfl) ⟨t0, t1⟩ (fun hHeld => ?_)
      simp only [List.size_toArray, List.length_cons, List.length_nil, Nat.reduceAdd]
      refine wpAnyH_take (i := 0) (oi := _) (v := ?_) rfl (by kernel_rfl) (by kernel_rfl) (by kernel_rfl) (fun _ _ _ h => h) (Or.inl ⟨by rfl, ?_⟩) hHeld ?_
      rotate_left
      · intro w hSw
        go_simp
        try rfl
      simp only [List.getElem_toArray, List.getElem_cons_zero, Act.put, List.setIfInBounds_toArray, List.set_cons_zero, List.set_cons_succ]
      refine wpAnyH_take (i := 1) (oi := _) (v := ?_) rfl (by kernel_rfl) (by kernel_rfl) (by kernel_rfl) (fun _ _ _ h => h) (Or.inl ⟨by rfl, ?_⟩) hHeld ?_
      rotate_left
      · intro w hSw
        go_simp
        try rfl
      simp only [List.getElem_toArray, List.getElem_cons_zero, List.getElem_cons_succ, Act.put, List.setIfInBounds_toArray, List.set_cons_zero, List.set_cons_succ]
      refine wpAnyH_take (i := 2) (oi := _) (v := ?_) rfl (by kernel_rfl) (by kernel_rfl) (by kernel_rfl) (fun _ _ _ h => h) (Or.inl ⟨by rfl, ?_⟩) hHeld ?_
      rotate_left
      · intro w hSw
        go_simp
        try rfl
      simp only [List.getElem_toArray, List.getElem_cons_zero, List.getElem_cons_succ, Act.put, List.setIfInBounds_toArray, List.set_cons_zero, List.set_cons_succ]
      refine wpAnyH_take (i := 3) (oi := _) (v := ?_) rfl (by kernel_rfl) (by kernel_rfl) (by kernel_rfl) (fun _ _ _ h => h) (Or.inl ⟨by rfl, ?_⟩) hHeld ?_
      rotate_left
      · intro w hSw
        go_simp
        try rfl
      simp only [List.getElem_toArray, List.getElem_cons_zero, List.getElem_cons_succ, Act.put, List.setIfInBounds_toArray, List.set_cons_zero, List.set_cons_succ]
      refine wpAnyH_take (i := 4) (oi := _) (v := ?_) rfl (by kernel_rfl) (by kernel_rfl) (by kernel_rfl) (fun _ _ _ h => h) (Or.inl ⟨by rfl, ?_⟩) hHeld ?_
      rotate_left
      · intro w hSw
        go_simp
        try rfl
      simp only [List.getElem_toArray, List.getElem_cons_zero, List.getElem_cons_succ, Act.put, List.setIfInBounds_toArray, List.set_cons_zero, List.set_cons_succ]
      refine wpAnyH_take (i := 5) (oi := _) (v := ?_) rfl (by kernel_rfl) (by kernel_rfl) (by kernel_rfl) (fun _ _ _ h => h) (Or.inl ⟨by rfl, ?_⟩) hHeld ?_
      rotate_left
      · intro w hSw
        go_simp
        try rfl
      simp only [List.getElem_toArray, List.getElem_cons_zero, List.getElem_cons_succ, Act.put, List.setIfInBounds_toArray, List.set_cons_zero, List.set_cons_succ]
      refine wpAnyH_take (i := 6) (oi := _) (v := ?_) rfl (by kernel_rfl) (by kernel_rfl) (by kernel_rfl) (fun _ _ _ h => h) (Or.inl ⟨by rfl, ?_⟩) hHeld ?_
      rotate_left
      · intro w hSw
        go_simp
        try rfl
      simp only [List.getElem_toArray, List.getElem_cons_zero, List.getElem_cons_succ, Act.put, List.setIfInBounds_toArray, List.set_cons_zero, List.set_cons_succ]
      refine wpAnyH_take (i := 7) (oi := _) (v := ?_) rfl (by kernel_rfl) (by kernel_rfl) (by kernel_rfl) (fun _ _ _ h => h) (Or.inl ⟨by rfl, ?_⟩) hHeld ?_
      rotate_left
      · intro w hSw
        go_simp
        try rfl
      simp only [List.getElem_toArray, List.getElem_cons_zero, List.getElem_cons_succ, Act.put, List.setIfInBounds_toArray, List.set_cons_zero, List.set_cons_succ]
      refine wpAnyH_take (i := 8) (oi := _) (v := ?_) rfl (by kernel_rfl) (by kernel_rfl) (by kernel_rfl) (fun _ _ _ h => h) (Or.inl ⟨by rfl, ?_⟩) hHeld ?_
      rotate_left
      · intro w hSw
        go_simp
        try rfl
      simp only [List.getElem_toArray, List.getElem_cons_zero, List.getElem_cons_succ, Act.put, List.setIfInBounds_toArray, List.set_cons_zero, List.set_cons_succ]
      refine wpAnyH_take (i := 9) (oi := _) (v := ?_) rfl (by kernel_rfl) (by kernel_rfl) (by kernel_rfl) (fun _ _ _ h => h) (Or.inl ⟨by rfl, ?_⟩) hHeld ?_
      rotate_left
      · intro w hSw
        go_simp
        try rfl
      simp only [List.getElem_toArray, List.getElem_cons_zero, List.getElem_cons_succ, Act.put, List.setIfInBounds_toArray, List.set_cons_zero, List.set_cons_succ]
      refine wpAnyH_ready (rs := [10]) (by kernel_rfl) (by simp) ?_
      refine AllReadyH.cons (o := _) rfl (fun K hK => ?_) AllReadyH.nil
      refine step_app_asns (by rfl) _ _ (by rfl) none [] xo (zs k) xc (by rfl) (by rfl) (.inl rfl) (by exact HA.out) (by simp; omega) ?_
      intro bo bc w1 hj
      have HJ : Hid (Joined wr.drew w1 none bo bc [] (zs k)) := hj
      have q0 := (HJ.out.below.cell (p := ⟨b0, off0 + k, none⟩) (Nat.lt_trans l0 hwr)).trans t0
      have q1 := (HJ.out.below.cell (p := ⟨b, off + k, none⟩) (Nat.lt_trans l1 hwr)).trans t1
      have R1 : Hid (Row2 w1 w.heap.size n (segF ty V k)) := HR.out.of_block (HJ.out.below.block _ hwr)
      have f0 := R1.out.frozen (k * 2)
      have f1 := R1.out.frozen (k * 2 + 1)
      have r0 : w1.cell? ⟨w.heap.size, k * 2, none⟩ = some (segF ty V k k 0) := R1.out.cell hlt (j := 0) (by omega)
      have r1 : w1.cell? ⟨w.heap.size, k * 2 + 1, none⟩ = some (segF ty V k k 1) := R1.out.cell hlt (j := 1) (by omega)
      clear hj
      refine hK.out _ _ ⟨q0, q1⟩ (fun hHeld => ?_)
      clear hK K
      simp only [List.getElem_toArray, List.getElem_cons_zero, List.getElem_cons_succ, Act.put, List.setIfInBounds_toArray, List.set_cons_zero, List.set_cons_succ]
      refine wpAnyH_take (i := 11) (oi := _) (v := ?_) rfl (by kernel_rfl) (by kernel_rfl) (by kernel_rfl) (fun _ _ _ h => h) (Or.inl ⟨by rfl, ?_⟩) hHeld ?_
      rotate_left
      · intro w hSw
        go_simp
        try rfl
      simp only [List.getElem_toArray, List.getElem_cons_zero, List.getElem_cons_succ, Act.put, List.setIfInBounds_toArray, List.set_cons_zero, List.set_cons_succ]
      refine wpAnyH_take (i := 12) (oi := _) (v := ?_) rfl (by kernel_rfl) (by kernel_rfl) (by kernel_rfl) (fun _ _ _ h => h) (Or.inl ⟨by rfl, ?_⟩) hHeld ?_
      rotate_left
      · intro w hSw
        go_simp
        try rfl
      simp only [List.getElem_toArray, List.getElem_cons_zero, List.getElem_cons_succ, Act.put, List.setIfInBounds_toArray, List.set_cons_zero, List.set_cons_succ]
      refine wpAnyH_ready (rs := [13]) (by kernel_rfl) (by simp) ?_
      refine AllReadyH.cons (o := _) rfl (fun K hK => ?_) AllReadyH.nil
      go_simp
      refine hK.out _ _ ⟨?_, ?_⟩ (fun hHeld => ?_)
      · exact (cell_far (by simp; omega)).trans ((cell_far (by simp; omega)).trans q0)
      · exact (cell_far (by simp; omega)).trans ((cell_far (by simp; omega)).trans q1)
      clear hK K
      refine wpAnyH_done (by kernel_rfl) ?_ _
      go_wp2
      go_roundw
      case rel =>
        refine ⟨k + 1, fun i => if i = k then .slice bo (zs k).length bc else V i, by omega, by go_num, ?_, ?_, (((HB.out.drew.trans (HJ.out.below.mono HB.out.size)).setCell (Nat.le_refl _) _).setCell (Nat.le_refl _) _)⟩
        · refine ((R1.out.set hlt (j := 0) (by omega) _).set hlt (j := 1) (by omega) _).congr (fun i _ j hj => ?_)
          unfold segF
          by_cases h1 : i = k
          · subst h1
            rcases j with _ | _ | j
            · simp
            · simp
            · omega
          · by_cases h2 : i < k
            · simp [h1, h2, Nat.lt_succ_of_lt h2]
            · have : ¬ i < k + 1 := by omega
              simp [h1, h2, this]
        · intro i hi
          by_cases h1 : i = k
          · subst h1
            exact ⟨bo, bc, by simp, HJ.out.le, HJ.out.top, ((HJ.out.fresh (.inl rfl)).mono hwr |>.setCell (Nat.lt_succ_self _) _).setCell (Nat.lt_succ_self _) _, HJ.out.nil⟩
          · obtain ⟨yo, yc, e1, e2, e3, e4, e5⟩ := HV.out i (by omega)
            exact ⟨yo, yc, by simp [h1, e1], e2, e3, ((e4.later (w' := w1) (B := wr.heap.size) (Nat.le_refl _) ((Below.refl _ wr).drew.trans HJ.out.below)).setCell (Nat.lt_succ_self _) _).setCell (Nat.lt_succ_self _) _, e5⟩
      case measure => simp [intOf]; omega
    · obtain rfl : k = n := by omega
      have HR : Hid (Row2 wr w.heap.size k (segF ty V k)) := hrow
      have HV : Hid (∀ i, i < k → ∃ xo xc, V i = .slice xo (zs i).length xc ∧ (zs i).length ≤ xc ∧ xc ≤ maxLen ∧ AsnsIn wr (w.heap.size + 1) xo (zs i) ∧ (xo = none → xc = 0)) := hV
      have HB : Hid (Below w.heap.size w wr) := hbel
      clear hrow hV hbel
      go_wp2
      go_ret
      refine ⟨⟨w.heap.size, rfl, Nat.le_refl _, HR.out.lt, fun w2 hB => .inr ⟨w.heap.size, 0, rfl, fun i hi => ?_⟩⟩, HB.out⟩
      obtain ⟨yo, yc, e1, e2, e3, e4, e5⟩ := HV.out i hi
      have d0 := HR.out.cell hi (j := 0) (by omega)
      have d1 := HR.out.cell hi (j := 1) (by omega)
      rw [segF, if_pos hi, if_pos rfl] at d0
      rw [segF, if_pos hi, if_neg (by omega), e1] at d1
      refine ⟨by simpa using (World.cell?_of_block (hB _ (Nat.le_refl _) HR.out.lt)).trans d0, yo, yc, by simpa using (World.cell?_of_block (hB _ (Nat.le_refl _) HR.out.lt)).trans d1, e2, e3, ?_, e5⟩
      rcases e4 with h | ⟨q, qo, h1, h2, h3⟩
      · exact .inl h
      · exact .inr ⟨q, qo, h1, fun j hj => (World.cell?_of_block (hB _ (by show _ ≤ q; omega) (cell_lt (h3 j hj)))).trans (h3 j hj)⟩

end Go.Proofs.Qxb6614704aMods
