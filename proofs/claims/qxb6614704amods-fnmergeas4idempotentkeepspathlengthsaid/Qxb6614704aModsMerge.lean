import Derived.Test.Qxb6614704aModsTail
import Derived.BigQuiet
import Derived.Deep.CutBlock
-- 33 mergeAS4, walked whole: of a decoder told by Dec, the decoder behind it holds mPath and mAgg.
namespace Go.Proofs.Qxb6614704aMods
open Go.RowKit
set_option maxRecDepth 100000 in
set_option maxHeartbeats 12800000 in
theorem merge_any (ba bd : Nat) (as4 : Bool) (P : List Seg) (ag ag4 : Option Int) (F : Option (List Seg)) (w : World) (hd : Dec w ba bd as4 P ag ag4 F) (hP : Fits 2097152 P) (hF : Fits 1048576 (F.getD [])) :
    Calls Trym.prog 33 #[.pointer (some ⟨bd, 0, none⟩)] w fun e w' => e = .returned (.tuple #[]) ∧ Dec w' ba bd as4 (mPath as4 P ag F) (mAgg as4 ag ag4) ag4 F ∧ Below ba w w' := by
  have HD : Hid (Dec w ba bd as4 P ag ag4 F) := hd
  have c0 := hd.c0
  have c7 := hd.c7
  have f1 := hd.f1
  have f14 := hd.f14
  obtain ⟨q, c14, hq⟩ := hd.agg
  clear hd
  cases as4
  case true =>
    go_enter Trym.func33, Trym.ntmps33
    go_wp2_with fail
    refine bodyPost_ret (results_none rfl _ _ _) rfl ?_
    exact ⟨rfl, HD.out, Below.refl _ _⟩
  cases hst : stale ag
  case true =>
    rcases hq with ⟨rfl, rfl⟩ | ⟨z, bg, rfl, rfl, _, c⟩
    · cases hst
    · have hz : (z != 23456) = true := hst
      have E1 : Hid (mPath false P (some z) F = P) := by unfold Hid mPath; rw [hst]; rfl
      have E2 : Hid (mAgg false (some z) ag4 = some z) := by unfold Hid mAgg; rw [hst]; rfl
      clear hst
      go_enter Trym.func33, Trym.ntmps33
      go_wp2_with fail
      refine bodyPost_ret (results_none rfl _ _ _) rfl ?_
      rw [E1.out, E2.out]
      exact ⟨rfl, HD.out, Below.refl _ _⟩
  have hst2 := not_stale hst
  have HST : Hid (stale ag = false) := hst
  have EP : Hid (mPath false P ag F = fPath P F) := by unfold Hid mPath; rw [hst]; rfl
  have EA : Hid (mAgg false ag ag4 = fAgg ag ag4) := by unfold Hid mAgg; rw [hst]; rfl
  clear hst
  go_enter Trym.func33, Trym.ntmps33
  go_upto_region 2 with fail
  go_cut [33] (fun v wc => v = .bool false ∧ wc = w)
  case first =>
    rcases hq with ⟨e, rfl⟩ | ⟨z, bg, e, rfl, _, c⟩
    · go_wp2_with fail
      go_meet
      exact ⟨rfl, rfl⟩
    · obtain rfl : z = 23456 := by
        rcases hst2 with h | h
        · rw [h] at e; cases e
        · rw [h] at e; injection e with e; exact e.symm
      go_wp2_with fail
      go_meet
      exact ⟨rfl, rfl⟩
  case rest =>
  obtain ⟨rfl, rfl⟩ := hcut
  obtain ⟨q4, c275, hq4⟩ := HD.out.agg4
  rename World => w0
  go_upto_region 3 with fail
  go_cut [38] (fun v wc => v = .bool ag4.isSome ∧ wc = w0)
  case first =>
    rcases hq4 with ⟨rfl, rfl⟩ | ⟨z, bg, rfl, rfl, hne, c⟩
    · go_wp2_with fail
      go_meet
      exact ⟨rfl, rfl⟩
    · go_wp2_with fail
      go_meet
      exact ⟨rfl, rfl⟩
  case rest =>
  obtain ⟨rfl, rfl⟩ := hcut
  rename World => w0
  go_upto_if 38 with fail
  go_cut [] (fun wc => Dec wc ba bd false P (mAgg false ag ag4) ag4 F ∧ Below ba w0 wc)
  case first =>
    rcases hq4 with ⟨rfl, rfl⟩ | ⟨z, bg, rfl, rfl, hne, c⟩
    · go_wp2_with fail
      go_meet
      rw [EA.out]
      exact ⟨HD.out, Below.refl _ _⟩
    · go_wp2_with fail
      go_meet
      rw [EA.out]
      exact ⟨HD.out.setAgg (.inr ⟨z, bg, rfl, rfl, hne, c⟩), by exact (Below.refl ba _).setCell (by exact Nat.le_refl _) _⟩
  case rest =>
  obtain ⟨hd, hb⟩ := hcut
  clear HD c0 c7 f1 f14 c14 hq hst2 HST c275 hq4
  rename World => w1
  have HD : Hid (Dec w1 ba bd false P (mAgg false ag ag4) ag4 F) := hd
  have HB1 : Hid (Below ba w0 w1) := hb
  have c7 := hd.c7
  obtain ⟨po, pc, c1, p2, p3, hpa⟩ := hd.path
  obtain ⟨fo, fc, c274, f2, f3, hfo, hfn⟩ := hd.four
  have HPA : Hid (PathL (sans w1 ba) po P) := hpa
  have HFO : Hid (PathL (sans w1 ba) fo (F.getD [])) := hfo
  have hnil := fun w => Lib.run_eql_slice_nil (P := Trym.prog) w 53 89 fo (F.getD []).length fc 0 0 Trym.underlying53
  clear hd hb hpa hfo
  cases F with
  | none =>
    obtain rfl : fo = none := hfn.2 rfl
    simp only [Option.getD_none, List.length_nil] at c274 hnil
    go_upto_region 5 with fail
    go_quiet (fail)
    go_wp2_with fail
    refine bodyPost_ret (results_none rfl _ _ _) rfl ?_
    rw [EP.out]
    exact ⟨rfl, HD.out.later (bel_drewN (Below.refl _ _) _), bel_drewN HB1.out _⟩
  | some Fs =>
    obtain ⟨fa, rfl⟩ : ∃ fa, fo = some fa := by
      cases fo with
      | none => cases hfn.1 rfl
      | some fa => exact ⟨fa, rfl⟩
    simp only [Option.getD_some] at c274 hnil f2 HFO hF
    clear hfn
    have hbl : ba < w1.heap.size := cell_lt c1
    have hdl : bd < w1.heap.size := cell_lt c7
    have lP : ∀ w' : World, Below w1.heap.size w1 w' → Calls Trym.prog 36 #[.slice po P.length pc] w' fun e w2 => e = .returned (.int .i64 (plenL P)) ∧ Below w'.heap.size w' w2 := fun w' hb => by
      have := length_any po P.length pc (tyL P) (zsL P) w' (HPA.out.back.later (Nat.le_refl _) hb) (Nat.le_trans hP.1 (by omega)) (fun i hi => Nat.le_trans (hP.zs hi) (by omega))
      rw [plen_all] at this
      exact this
    have lF : ∀ w' : World, Below w1.heap.size w1 w' → Calls Trym.prog 36 #[.slice (some fa) Fs.length fc] w' fun e w2 => e = .returned (.int .i64 (plenL Fs)) ∧ Below w'.heap.size w' w2 := fun w' hb => by
      have := length_any (some fa) Fs.length fc (tyL Fs) (zsL Fs) w' (HFO.out.back.later (Nat.le_refl _) hb) (Nat.le_trans hF.1 (by omega)) (fun i hi => Nat.le_trans (hF.zs hi) (by omega))
      rw [plen_all] at this
      exact this
    have LP : Hid (∀ w' : World, Below w1.heap.size w1 w' → Calls Trym.prog 36 #[.slice po P.length pc] w' fun e w2 => e = .returned (.int .i64 (plenL P)) ∧ Below w'.heap.size w' w2) := lP
    have LF : Hid (∀ w' : World, Below w1.heap.size w1 w' → Calls Trym.prog 36 #[.slice (some fa) Fs.length fc] w' fun e w2 => e = .returned (.int .i64 (plenL Fs)) ∧ Below w'.heap.size w' w2) := lF
    clear lP lF
    have kP : plenL P ≤ 2097152 * 2097152 := Nat.le_trans (plenL_le hP.2 (by omega)) (Nat.mul_le_mul_right _ hP.1)
    have kF : plenL Fs ≤ 1048576 * 1048576 := Nat.le_trans (plenL_le hF.2 (by omega)) (Nat.mul_le_mul_right _ hF.1)
    go_upto_region 5 with fail
    go_cut [63] (fun v wc => v = .bool (decide (plenL P < plenL Fs)) ∧ Below w1.heap.size w1 wc)
    case first =>
      refine wp_region_held_drew (S := (fun w' : World => Below w1.heap.size w1 w')) (by kernel_rfl) (Below.refl w1.heap.size w1).drew (fun hHeld => ?_)
      simp only [List.size_toArray, List.length_cons, List.length_nil, Nat.reduceAdd]
      refine wpAnyH_take (i := 0) (oi := _) (v := ?_) rfl (by kernel_rfl) (by kernel_rfl) (by kernel_rfl) (fun _ _ _ h => h) (Or.inl ⟨by rfl, ?_⟩) hHeld ?_
      rotate_left
      · intro w hSw
        go_simp
        try rfl
      simp only [List.getElem_toArray, List.getElem_cons_zero, Act.put, List.setIfInBounds_toArray, List.set_cons_zero, List.set_cons_succ]
      refine wpAnyH_take (i := 1) (oi := _) (v := ?_) rfl (by kernel_rfl) (by kernel_rfl) (by kernel_rfl) (fun _ _ _ h => h) (Or.inl ⟨by rfl, ?_⟩) hHeld ?_
      rotate_left
      · intro w hSw
        go_simp
        try rfl
      simp only [List.getElem_toArray, List.getElem_cons_zero, List.getElem_cons_succ, Act.put, List.setIfInBounds_toArray, List.set_cons_zero, List.set_cons_succ]
      refine wpAnyH_take (i := 2) (oi := _) (v := ?_) rfl (by kernel_rfl) (by kernel_rfl) (by kernel_rfl) (fun _ _ _ h => h) (Or.inl ⟨by rfl, ?_⟩) hHeld ?_
      rotate_left
      · intro w hSw
        go_simp
        try rfl
      simp only [List.getElem_toArray, List.getElem_cons_zero, List.getElem_cons_succ, Act.put, List.setIfInBounds_toArray, List.set_cons_zero, List.set_cons_succ]
      refine wpAnyH_take (i := 3) (oi := _) (v := ?_) rfl (by kernel_rfl) (by kernel_rfl) (by kernel_rfl) (fun _ _ _ h => h) (Or.inl ⟨by rfl, ?_⟩) hHeld ?_
      rotate_left
      · intro w hSw
        have k := (hSw.cell (p := ⟨bd, 274, none⟩) hdl).trans c274
        go_simp
        try rfl
      simp only [List.getElem_toArray, List.getElem_cons_zero, List.getElem_cons_succ, Act.put, List.setIfInBounds_toArray, List.set_cons_zero, List.set_cons_succ]
      refine wpAnyH_take (i := 4) (oi := _) (v := ?_) rfl (by kernel_rfl) (by kernel_rfl) (by kernel_rfl) (fun _ _ _ h => h) (Or.inl ⟨by rfl, ?_⟩) hHeld ?_
      rotate_left
      · intro w hSw
        go_simp
        try rfl
      simp only [List.getElem_toArray, List.getElem_cons_zero, List.getElem_cons_succ, Act.put, List.setIfInBounds_toArray, List.set_cons_zero, List.set_cons_succ]
      refine wpAnyH_take (i := 5) (oi := _) (v := ?_) rfl (by kernel_rfl) (by kernel_rfl) (by kernel_rfl) (fun _ _ _ h => h) (Or.inl ⟨by rfl, ?_⟩) hHeld ?_
      rotate_left
      · intro w hSw
        go_simp
        try rfl
      simp only [List.getElem_toArray, List.getElem_cons_zero, List.getElem_cons_succ, Act.put, List.setIfInBounds_toArray, List.set_cons_zero, List.set_cons_succ]
      refine wpAnyH_take (i := 6) (oi := _) (v := ?_) rfl (by kernel_rfl) (by kernel_rfl) (by kernel_rfl) (fun _ _ _ h => h) (Or.inl ⟨by rfl, ?_⟩) hHeld ?_
      rotate_left
      · intro w hSw
        go_simp
        try rfl
      simp only [List.getElem_toArray, List.getElem_cons_zero, List.getElem_cons_succ, Act.put, List.setIfInBounds_toArray, List.set_cons_zero, List.set_cons_succ]
      refine wpAnyH_take (i := 7) (oi := _) (v := ?_) rfl (by kernel_rfl) (by kernel_rfl) (by kernel_rfl) (fun _ _ _ h => h) (Or.inl ⟨by rfl, ?_⟩) hHeld ?_
      rotate_left
      · intro w hSw
        go_simp
        try rfl
      simp only [List.getElem_toArray, List.getElem_cons_zero, List.getElem_cons_succ, Act.put, List.setIfInBounds_toArray, List.set_cons_zero, List.set_cons_succ]
      refine wpAnyH_take (i := 8) (oi := _) (v := ?_) rfl (by kernel_rfl) (by kernel_rfl) (by kernel_rfl) (fun _ _ _ h => h) (Or.inl ⟨by rfl, ?_⟩) hHeld ?_
      rotate_left
      · intro w hSw
        go_simp
        try rfl
      simp only [List.getElem_toArray, List.getElem_cons_zero, List.getElem_cons_succ, Act.put, List.setIfInBounds_toArray, List.set_cons_zero, List.set_cons_succ]
      refine wpAnyH_take (i := 9) (oi := _) (v := ?_) rfl (by kernel_rfl) (by kernel_rfl) (by kernel_rfl) (fun _ _ _ h => h) (Or.inl ⟨by rfl, ?_⟩) hHeld ?_
      rotate_left
      · intro w hSw
        have k := (hSw.cell (p := ⟨ba, 1, none⟩) hbl).trans c1
        go_simp
        try rfl
      simp only [List.getElem_toArray, List.getElem_cons_zero, List.getElem_cons_succ, Act.put, List.setIfInBounds_toArray, List.set_cons_zero, List.set_cons_succ]
      refine wpAnyH_take (i := 11) (oi := _) (v := ?_) rfl (by kernel_rfl) (by kernel_rfl) (by kernel_rfl) (fun _ _ _ h => h) (Or.inl ⟨by rfl, ?_⟩) hHeld ?_
      rotate_left
      · intro w hSw
        go_simp
        try rfl
      simp only [List.getElem_toArray, List.getElem_cons_zero, List.getElem_cons_succ, Act.put, List.setIfInBounds_toArray, List.set_cons_zero, List.set_cons_succ]
      refine wpAnyH_take (i := 12) (oi := _) (v := ?_) rfl (by kernel_rfl) (by kernel_rfl) (by kernel_rfl) (fun _ _ _ h => h) (Or.inl ⟨by rfl, ?_⟩) hHeld ?_
      rotate_left
      · intro w hSw
        go_simp
        try rfl
      simp only [List.getElem_toArray, List.getElem_cons_zero, List.getElem_cons_succ, Act.put, List.setIfInBounds_toArray, List.set_cons_zero, List.set_cons_succ]
      refine wpAnyH_take (i := 13) (oi := _) (v := ?_) rfl (by kernel_rfl) (by kernel_rfl) (by kernel_rfl) (fun _ _ _ h => h) (Or.inl ⟨by rfl, ?_⟩) hHeld ?_
      rotate_left
      · intro w hSw
        go_simp
        try rfl
      simp only [List.getElem_toArray, List.getElem_cons_zero, List.getElem_cons_succ, Act.put, List.setIfInBounds_toArray, List.set_cons_zero, List.set_cons_succ]
      refine wpAnyH_take (i := 14) (oi := _) (v := ?_) rfl (by kernel_rfl) (by kernel_rfl) (by kernel_rfl) (fun _ _ _ h => h) (Or.inl ⟨by rfl, ?_⟩) hHeld ?_
      rotate_left
      · intro w hSw
        have k := (hSw.cell (p := ⟨bd, 274, none⟩) hdl).trans c274
        go_simp
        try rfl
      simp only [List.getElem_toArray, List.getElem_cons_zero, List.getElem_cons_succ, Act.put, List.setIfInBounds_toArray, List.set_cons_zero, List.set_cons_succ]
      refine wpAnyH_ready (rs := [10]) (by kernel_rfl) (by simp) ?_
      refine AllReadyH.cons (o := _) rfl (fun K hK => ?_) AllReadyH.nil
      go_simp
      refine (LP.out _ (Below.refl w1.heap.size w1).drew).mono ?_
      rintro e w2 ⟨rfl, hb2⟩
      have X2 : Hid (Below w1.heap.size w1 w2) := ((Below.refl w1.heap.size w1).drew).trans (hb2.mono (Nat.le_refl _))
      clear hb2
      refine hK.out _ _ X2.out (fun hHeld => ?_)
      clear hK K
      refine wpAnyH_ready (rs := [15]) (by kernel_rfl) (by simp) ?_
      refine AllReadyH.cons (o := _) rfl (fun K hK => ?_) AllReadyH.nil
      go_simp
      refine (LF.out _ X2.out).mono ?_
      rintro e w3 ⟨rfl, hb3⟩
      have X3 : Hid (Below w1.heap.size w1 w3) := X2.out.trans (hb3.mono X2.out.size)
      clear hb3
      refine hK.out _ _ X3.out (fun hHeld => ?_)
      clear hK K
      refine wpAnyH_take (i := 16) (oi := _) (v := ?_) rfl (by kernel_rfl) (by kernel_rfl) (by kernel_rfl) (fun _ _ _ h => h) (Or.inl ⟨by rfl, ?_⟩) hHeld ?_
      rotate_left
      · intro w hSw
        go_simp
        try rfl
      simp only [List.getElem_toArray, List.getElem_cons_zero, List.getElem_cons_succ, Act.put, List.setIfInBounds_toArray, List.set_cons_zero, List.set_cons_succ]
      refine wpAnyH_take (i := 17) (oi := _) (v := ?_) rfl (by kernel_rfl) (by kernel_rfl) (by kernel_rfl) (fun _ _ _ h => h) (Or.inl ⟨by rfl, ?_⟩) hHeld ?_
      rotate_left
      · intro w hSw
        go_simp
        try rfl
      simp only [List.getElem_toArray, List.getElem_cons_zero, List.getElem_cons_succ, Act.put, List.setIfInBounds_toArray, List.set_cons_zero, List.set_cons_succ]
      refine wpAnyH_done (by kernel_rfl) ?_ _
      go_wp2_with fail
      go_meet
      exact ⟨by simp, X3.out⟩
    case rest =>
    obtain ⟨rfl, hb2⟩ := hcut
    have HB2 : Hid (Below w1.heap.size w1 wc) := hb2
    clear hb2
    by_cases hlt : plenL P < plenL Fs
    · go_wp2_with fail
      refine bodyPost_ret (results_none rfl _ _ _) rfl ?_
      rw [EP.out]
      have e : fPath P (some Fs) = P := by show mergeL P Fs = P; unfold mergeL; rw [if_neg (by omega)]
      rw [e]
      exact ⟨rfl, HD.out.later HB2.out, HB1.out.trans (HB2.out.mono (Nat.le_of_lt hbl))⟩
    rename World => w5
    go_upto_region 6 with fail
    go_cut [3] (fun v wc => v = .int .i64 ((plenL P - plenL Fs : Nat) : Int) ∧ Below w1.heap.size w1 wc)
    case first =>
      refine wp_region_held_drew (S := (fun w' : World => Below w1.heap.size w1 w')) (by kernel_rfl) HB2.out.drew (fun hHeld => ?_)
      simp only [List.size_toArray, List.length_cons, List.length_nil, Nat.reduceAdd]
      refine wpAnyH_take (i := 0) (oi := _) (v := ?_) rfl (by kernel_rfl) (by kernel_rfl) (by kernel_rfl) (fun _ _ _ h => h) (Or.inl ⟨by rfl, ?_⟩) hHeld ?_
      rotate_left
      · intro w hSw
        go_simp
        try rfl
      simp only [List.getElem_toArray, List.getElem_cons_zero, Act.put, List.setIfInBounds_toArray, List.set_cons_zero, List.set_cons_succ]
      refine wpAnyH_take (i := 1) (oi := _) (v := ?_) rfl (by kernel_rfl) (by kernel_rfl) (by kernel_rfl) (fun _ _ _ h => h) (Or.inl ⟨by rfl, ?_⟩) hHeld ?_
      rotate_left
      · intro w hSw
        go_simp
        try rfl
      simp only [List.getElem_toArray, List.getElem_cons_zero, List.getElem_cons_succ, Act.put, List.setIfInBounds_toArray, List.set_cons_zero, List.set_cons_succ]
      refine wpAnyH_take (i := 2) (oi := _) (v := ?_) rfl (by kernel_rfl) (by kernel_rfl) (by kernel_rfl) (fun _ _ _ h => h) (Or.inl ⟨by rfl, ?_⟩) hHeld ?_
      rotate_left
      · intro w hSw
        go_simp
        try rfl
      simp only [List.getElem_toArray, List.getElem_cons_zero, List.getElem_cons_succ, Act.put, List.setIfInBounds_toArray, List.set_cons_zero, List.set_cons_succ]
      refine wpAnyH_take (i := 3) (oi := _) (v := ?_) rfl (by kernel_rfl) (by kernel_rfl) (by kernel_rfl) (fun _ _ _ h => h) (Or.inl ⟨by rfl, ?_⟩) hHeld ?_
      rotate_left
      · intro w hSw
        have k := (hSw.cell (p := ⟨ba, 1, none⟩) hbl).trans c1
        go_simp
        try rfl
      simp only [List.getElem_toArray, List.getElem_cons_zero, List.getElem_cons_succ, Act.put, List.setIfInBounds_toArray, List.set_cons_zero, List.set_cons_succ]
      refine wpAnyH_take (i := 5) (oi := _) (v := ?_) rfl (by kernel_rfl) (by kernel_rfl) (by kernel_rfl) (fun _ _ _ h => h) (Or.inl ⟨by rfl, ?_⟩) hHeld ?_
      rotate_left
      · intro w hSw
        go_simp
        try rfl
      simp only [List.getElem_toArray, List.getElem_cons_zero, List.getElem_cons_succ, Act.put, List.setIfInBounds_toArray, List.set_cons_zero, List.set_cons_succ]
      refine wpAnyH_take (i := 6) (oi := _) (v := ?_) rfl (by kernel_rfl) (by kernel_rfl) (by kernel_rfl) (fun _ _ _ h => h) (Or.inl ⟨by rfl, ?_⟩) hHeld ?_
      rotate_left
      · intro w hSw
        go_simp
        try rfl
      simp only [List.getElem_toArray, List.getElem_cons_zero, List.getElem_cons_succ, Act.put, List.setIfInBounds_toArray, List.set_cons_zero, List.set_cons_succ]
      refine wpAnyH_take (i := 7) (oi := _) (v := ?_) rfl (by kernel_rfl) (by kernel_rfl) (by kernel_rfl) (fun _ _ _ h => h) (Or.inl ⟨by rfl, ?_⟩) hHeld ?_
      rotate_left
      · intro w hSw
        go_simp
        try rfl
      simp only [List.getElem_toArray, List.getElem_cons_zero, List.getElem_cons_succ, Act.put, List.setIfInBounds_toArray, List.set_cons_zero, List.set_cons_succ]
      refine wpAnyH_take (i := 8) (oi := _) (v := ?_) rfl (by kernel_rfl) (by kernel_rfl) (by kernel_rfl) (fun _ _ _ h => h) (Or.inl ⟨by rfl, ?_⟩) hHeld ?_
      rotate_left
      · intro w hSw
        have k := (hSw.cell (p := ⟨bd, 274, none⟩) hdl).trans c274
        go_simp
        try rfl
      simp only [List.getElem_toArray, List.getElem_cons_zero, List.getElem_cons_succ, Act.put, List.setIfInBounds_toArray, List.set_cons_zero, List.set_cons_succ]
      refine wpAnyH_ready (rs := [4]) (by kernel_rfl) (by simp) ?_
      refine AllReadyH.cons (o := _) rfl (fun K hK => ?_) AllReadyH.nil
      go_simp
      refine (LP.out _ HB2.out.drew).mono ?_
      rintro e w2 ⟨rfl, hb2⟩
      have X2 : Hid (Below w1.heap.size w1 w2) := HB2.out.drew.trans (hb2.mono HB2.out.size)
      clear hb2
      refine hK.out _ _ X2.out (fun hHeld => ?_)
      clear hK K
      refine wpAnyH_ready (rs := [9]) (by kernel_rfl) (by simp) ?_
      refine AllReadyH.cons (o := _) rfl (fun K hK => ?_) AllReadyH.nil
      go_simp
      refine (LF.out _ X2.out).mono ?_
      rintro e w3 ⟨rfl, hb3⟩
      have X3 : Hid (Below w1.heap.size w1 w3) := X2.out.trans (hb3.mono X2.out.size)
      clear hb3
      refine hK.out _ _ X3.out (fun hHeld => ?_)
      clear hK K
      refine wpAnyH_take (i := 10) (oi := _) (v := ?_) rfl (by kernel_rfl) (by kernel_rfl) (by kernel_rfl) (fun _ _ _ h => h) (Or.inl ⟨by rfl, ?_⟩) hHeld ?_
      rotate_left
      · intro w hSw
        go_simp
        try rfl
      simp only [List.getElem_toArray, List.getElem_cons_zero, List.getElem_cons_succ, Act.put, List.setIfInBounds_toArray, List.set_cons_zero, List.set_cons_succ]
      refine wpAnyH_take (i := 11) (oi := _) (v := ?_) rfl (by kernel_rfl) (by kernel_rfl) (by kernel_rfl) (fun _ _ _ h => h) (Or.inl ⟨by rfl, ?_⟩) hHeld ?_
      rotate_left
      · intro w hSw
        go_simp
        try rfl
      simp only [List.getElem_toArray, List.getElem_cons_zero, List.getElem_cons_succ, Act.put, List.setIfInBounds_toArray, List.set_cons_zero, List.set_cons_succ]
      refine wpAnyH_done (by kernel_rfl) ?_ _
      go_wp2_with fail
      go_meet
      exact ⟨by rw [wrap64 _ _ (by omega) (by omega)], X3.out⟩
    case rest =>
    obtain ⟨rfl, hb3⟩ := hcut
    have HD3 : Hid (Dec wc ba bd false P (mAgg false ag ag4) ag4 (some Fs)) := HD.out.later hb3
    have HB3 : Hid (Below ba w0 wc) := HB1.out.trans (hb3.mono (Nat.le_of_lt hbl))
    have d7 := (hb3.cell (p := ⟨bd, 7, none⟩) hdl).trans c7
    have d1 := (hb3.cell (p := ⟨ba, 1, none⟩) hbl).trans c1
    have d274 := (hb3.cell (p := ⟨bd, 274, none⟩) hdl).trans c274
    have l3 : ba < wc.heap.size := Nat.lt_of_lt_of_le hbl hb3.size
    have m3 : bd < wc.heap.size := Nat.lt_of_lt_of_le hdl hb3.size
    have HPA3 : Hid (PathL (sans wc ba) po P) := HPA.out.sansKeep hbl (fun k hk _ => hb3.block k hk)
    have HFO3 : Hid (PathL (sans wc ba) (some fa) Fs) := HFO.out.sansKeep hbl (fun k hk _ => hb3.block k hk)
    clear hb3 HD HB1 c7 c1 c274 hbl hdl HPA HFO HB2 LP LF hnil
    rename World => w3
    obtain ⟨i0, hi, hz0, hz1, hz2⟩ := info_parts info89
    have hn1 := hP.1
    obtain ⟨k0, hk0⟩ : ∃ k0, k0 = plenL P - plenL Fs := ⟨_, rfl⟩
    rw [← hk0]
    have hkm : k0 ≤ 2097152 * 2097152 := by omega
    go_upto_block 0 with fail
    go_cut [4] (fun mv wc => ∃ (R : List Ent) (m : Value), m = mv ∧ R.map segOf = keepC k0 P ∧ R.length ≤ P.length ∧ Mer w3 ba wc m R)
    case first =>
      go_wp2_with fail
      go_loopw [3, 4, 80] (fun kv mv iv wr => ∃ (i k : Nat) (R : List Ent), i ≤ P.length ∧ iv = .int .i64 i ∧ kv = .int .i64 k ∧ k ≤ k0 ∧ keepC k0 P = R.map segOf ++ keepC k (P.drop i) ∧ R.length ≤ i ∧ ∃ m, m = mv ∧ Mer w3 ba wr m R) (fun _ _ i _ => P.length - (intOf i).toNat)
      case atStart => exact ⟨0, k0, [], Nat.zero_le _, rfl, rfl, Nat.le_refl _, by simp, Nat.le_refl _, _, rfl, Mer.start _ _⟩
      case round =>
        obtain ⟨i, k, R, hi', rfl, rfl, hkk, hkeep, hRl, mv, rfl, hmer⟩ := hrel
        have HK : Hid (keepC k0 P = R.map segOf ++ keepC k (P.drop i)) := hkeep
        have HM : Hid (Mer w3 ba wr mv R) := hmer
        clear hkeep hmer
        by_cases hlt : i < P.length
        · obtain ⟨b, off, xo, xc, epo, t0, t1, x2, x3, hasn, hxn⟩ := HPA3.out.at hlt
          subst epo
          have t0' := (sans_cell t0).1
          have t1' := (sans_cell t1).1
          have u0 := (HM.out.below.cell (p := ⟨b, off + i * 2, none⟩) (cell_lt t0')).trans t0'
          have u1 := (HM.out.below.cell (p := ⟨b, off + i * 2 + 1, none⟩) (cell_lt t1')).trans t1'
          have HA : Hid (AsnsF (sans w3 ba) xo (zsL P i)) := hasn
          have HXN : Hid (xo = none → xc = 0) := hxn
          clear t0 t1 t0' t1' hasn hxn
          have hsl := hP.zs hlt
          have HD1 : Hid (keepC k (P.drop i) = _) := keepC_drop P k i hlt
          have HONE : Hid (∀ a b c d, ∀ u ∈ [Value.int .u8 a, .slice b c d], u.oneCell' = true) := by unfold Hid; simp [Value.oneCell']
          have H63 : Hid (R.length + 1 ≤ maxLen) := by unfold Hid maxLen; omega
          have H72 : Hid ((R.length + 1) * 32 ≤ 140737488355328) := by unfold Hid; omega
          have HSZ : Hid (∀ o1 o2, ((wr.alloc o1).alloc o2).heap.size = wr.heap.size + 2) := by unfold Hid; intro o1 o2; simp
          have HBS : Hid (∀ o1 o2, w3.heap.size ≤ ((wr.alloc o1).alloc o2).heap.size) := by unfold Hid; intro o1 o2; have := HM.out.below.size; simp; omega
          have hki : (i : Int) < (P.length : Int) := by omega
          by_cases hk : k = 0
          · subst hk
            go_wp2_with fail
            go_meet
            exact ⟨R, _, rfl, by rw [HK.out, keepC_zero, List.append_nil], by omega, HM.out.alloc _⟩
          cases h2 : (tyL P i == 2)
          · cases h1 : (tyL P i == 1)
            · have HD2 : Hid (keepC k (P.drop i) = (tyL P i, zsL P i) :: keepC k (P.drop (i + 1))) := by
                unfold Hid; rw [HD1.out, if_neg hk, if_neg (by simpa using h2), if_neg (by simpa using h1)]
              go_wp2_with (first | (at_builtin; refine wpList_append_lies _ rfl _ _ 53 rfl w3.heap.size 89 i0 _ 2 32 Trym.underlying53 hi hz0 hz1 hz2 (by rfl) (by decide) mv R.length (cellsOf R) rfl (by exact HM.out.own2 _ _) ⟨wr.heap.size + 1, 0, none⟩ 1 1 [.int .u8 (tyL P i), .slice xo (zsL P i).length xc] rfl (by rfl) (by exact news2 wr _ _ _) (by exact HONE.out _ _ _ _) (by decide) H63.out H72.out (by exact HBS.out _ _) (wr.heap.size + 2) (by exact HSZ.out _ _) ?_; intro g cap w1 hown1 hgrow hat hglt; clear hat hglt; have HM1 : Hid (Mer w3 ba w1 (.slice (some ⟨g, 0, none⟩) (R.length + 1) cap) (R ++ [(tyL P i, zsL P i, xo, xc)])) := HM.out.more ⟨x2, x3, HA.out, HXN.out⟩ (fun e => by rw [show tyL P i = 2 from e] at h2; cases h2) hown1 hgrow; clear hown1 hgrow) | go_in)
              go_roundw
              case rel => exact ⟨i + 1, k, R ++ [(tyL P i, zsL P i, xo, xc)], by omega, by go_num, rfl, hkk, keep_next HK.out HD2.out, by simp; omega, _, rfl, HM1.out⟩
              case measure => simp [intOf]; omega
            · have HD2 : Hid (keepC k (P.drop i) = (tyL P i, zsL P i) :: keepC (k - 1) (P.drop (i + 1))) := by
                unfold Hid; rw [HD1.out, if_neg hk, if_neg (by simpa using h2), if_pos (by simpa using h1)]
              go_wp2_with (first | (at_builtin; refine wpList_append_lies _ rfl _ _ 53 rfl w3.heap.size 89 i0 _ 2 32 Trym.underlying53 hi hz0 hz1 hz2 (by rfl) (by decide) mv R.length (cellsOf R) rfl (by exact HM.out.own2 _ _) ⟨wr.heap.size + 1, 0, none⟩ 1 1 [.int .u8 (tyL P i), .slice xo (zsL P i).length xc] rfl (by rfl) (by exact news2 wr _ _ _) (by exact HONE.out _ _ _ _) (by decide) H63.out H72.out (by exact HBS.out _ _) (wr.heap.size + 2) (by exact HSZ.out _ _) ?_; intro g cap w1 hown1 hgrow hat hglt; clear hat hglt; have HM1 : Hid (Mer w3 ba w1 (.slice (some ⟨g, 0, none⟩) (R.length + 1) cap) (R ++ [(tyL P i, zsL P i, xo, xc)])) := HM.out.more ⟨x2, x3, HA.out, HXN.out⟩ (fun e => by rw [show tyL P i = 2 from e] at h2; cases h2) hown1 hgrow; clear hown1 hgrow) | go_in)
              go_roundw
              case rel => exact ⟨i + 1, k - 1, R ++ [(tyL P i, zsL P i, xo, xc)], by omega, by go_num, by go_num, by omega, keep_next HK.out HD2.out, by simp; omega, _, rfl, HM1.out⟩
              case measure => simp [intOf]; omega
          · by_cases hmin : k ≤ (zsL P i).length
            · have hsome := hmin
              have HD2 : Hid (keepC k (P.drop i) = segOf ((2 : Int), (zsL P i).take k, xo, k) :: keepC (k - min k (zsL P i).length) (P.drop (i + 1))) := by
                unfold Hid; rw [HD1.out, if_neg hk, if_pos (by simpa using h2)]; rfl
              have HV : Hid (valOf ((2 : Int), (zsL P i).take k, xo, k) = .slice xo k k) := by unfold Hid valOf; simp; omega
              have HGE : Hid (Good (sans w3 ba) ((2 : Int), (zsL P i).take k, xo, k)) := ⟨by simp; omega, by show k ≤ maxLen; unfold maxLen; omega, HA.out.take k, fun e => by have := HXN.out e; show k = 0; omega⟩
              go_wp2_with (first | (at_builtin; refine wpList_append_lies _ rfl _ _ 53 rfl w3.heap.size 89 i0 _ 2 32 Trym.underlying53 hi hz0 hz1 hz2 (by rfl) (by decide) mv R.length (cellsOf R) rfl (by exact HM.out.own2 _ _) ⟨wr.heap.size + 1, 0, none⟩ 1 1 [.int .u8 2, .slice xo k k] rfl (by rfl) (by exact news2 wr _ _ _) (by exact HONE.out _ _ _ _) (by decide) H63.out H72.out (by exact HBS.out _ _) (wr.heap.size + 2) (by exact HSZ.out _ _) ?_; intro g cap w1 hown1 hgrow hat hglt; clear hat hglt; have HM1 : Hid (Mer w3 ba w1 (.slice (some ⟨g, 0, none⟩) (R.length + 1) cap) (R ++ [((2 : Int), (zsL P i).take k, xo, k)])) := HM.out.more HGE.out (fun _ => by show k = ((zsL P i).take k).length; simp; omega) (by rw [HV.out]; exact hown1) hgrow; clear hown1 hgrow) | go_in)
              go_roundw
              case rel => exact ⟨i + 1, k - min k (zsL P i).length, R ++ [((2 : Int), (zsL P i).take k, xo, k)], by omega, by go_num, by first | go_num | (simp; omega) | (simp; done), by omega, keep_next HK.out HD2.out, by simp; omega, _, rfl, HM1.out⟩
              case measure => simp [intOf]; omega
            · have hsome := hmin
              have HD2 : Hid (keepC k (P.drop i) = segOf ((2 : Int), zsL P i, xo, (zsL P i).length) :: keepC (k - min k (zsL P i).length) (P.drop (i + 1))) := by
                unfold Hid; rw [HD1.out, if_neg hk, if_pos (by simpa using h2), List.take_of_length_le (by omega)]; rfl
              have HV : Hid (valOf ((2 : Int), zsL P i, xo, (zsL P i).length) = .slice xo (zsL P i).length (zsL P i).length) := by unfold Hid valOf; simp
              have HGE : Hid (Good (sans w3 ba) ((2 : Int), zsL P i, xo, (zsL P i).length)) := ⟨Nat.le_refl _, by show (zsL P i).length ≤ maxLen; unfold maxLen; omega, HA.out, fun e => by have := HXN.out e; show (zsL P i).length = 0; omega⟩
              go_wp2_with (first | (at_builtin; refine wpList_append_lies _ rfl _ _ 53 rfl w3.heap.size 89 i0 _ 2 32 Trym.underlying53 hi hz0 hz1 hz2 (by rfl) (by decide) mv R.length (cellsOf R) rfl (by exact HM.out.own2 _ _) ⟨wr.heap.size + 1, 0, none⟩ 1 1 [.int .u8 2, .slice xo (zsL P i).length (zsL P i).length] rfl (by rfl) (by exact news2 wr _ _ _) (by exact HONE.out _ _ _ _) (by decide) H63.out H72.out (by exact HBS.out _ _) (wr.heap.size + 2) (by exact HSZ.out _ _) ?_; intro g cap w1 hown1 hgrow hat hglt; clear hat hglt; have HM1 : Hid (Mer w3 ba w1 (.slice (some ⟨g, 0, none⟩) (R.length + 1) cap) (R ++ [((2 : Int), zsL P i, xo, (zsL P i).length)])) := HM.out.more HGE.out (fun _ => rfl) (by rw [HV.out]; exact hown1) hgrow; clear hown1 hgrow) | go_in)
              go_roundw
              case rel => exact ⟨i + 1, k - min k (zsL P i).length, R ++ [((2 : Int), zsL P i, xo, (zsL P i).length)], by omega, by go_num, by first | go_num | (simp; omega) | (simp; done), by omega, keep_next HK.out HD2.out, by simp; omega, _, rfl, HM1.out⟩
              case measure => simp [intOf]; omega
        · obtain rfl : i = P.length := by omega
          go_wp2_with fail
          go_meet
          exact ⟨R, _, rfl, by rw [HK.out, List.drop_length]; simp [keepC], hRl, HM.out⟩
    case rest =>
    obtain ⟨R, mv, rfl, hR, hRl, hmer⟩ := hcut
    rename World => w6
    have HM : Hid (Mer w3 ba w6 mv R) := hmer
    have HR : Hid (R.map segOf = keepC k0 P) := hR
    clear hmer hR d1
    have hw6 : w3.heap.size ≤ w6.heap.size := HM.out.below.size
    have g7 := (HM.out.below.cell (p := ⟨bd, 7, none⟩) m3).trans d7
    have g274 := (HM.out.below.cell (p := ⟨bd, 274, none⟩) m3).trans d274
    clear d7 d274
    obtain ⟨R4, hR4, hg4, hsrc4⟩ := HFO3.out.ents
    have HR4 : Hid (R4.map segOf = Fs) := hR4
    have hR4l : R4.length = Fs.length := by rw [← hR4]; simp
    have hF1 := hF.1
    have HG4 : Hid (∀ e ∈ R4, Good (sans w3 ba) e) := hg4
    have HS4 : Hid (R4 = [] ∨ ∃ b off, some fa = some ⟨b, off, none⟩ ∧ ∀ j u, (cellsOf R4)[j]? = some u → w6.cell? ⟨b, off + j, none⟩ = some u) := by
      rcases hsrc4 with h | ⟨b, off, e, h⟩
      · left
        rw [← hR4] at h
        exact List.map_eq_nil_iff.1 h
      · refine .inr ⟨b, off, e, fun j u hu => ?_⟩
        have h1 := (sans_cell (h j u hu)).1
        exact (World.cell?_of_block (HM.out.below.block _ (cell_lt h1))).trans h1
    clear hR4 hg4 hsrc4
    have HLA0 : Hid (Last w3 ba w6 mv R (some fa) R4) := ⟨HM.out.own, fun e he => by
      rcases List.mem_append.1 he with h | h
      · exact good_old (HM.out.good e h) HM.out.below HM.out.row l3
      · exact good_old (HG4.out e h) HM.out.below HM.out.row l3, HS4.out, HM.out.below⟩
    have HPL : Hid ((¬ ∃ M' m f r, R = M' ++ [m] ∧ R4 = f :: r ∧ m.1 = 2 ∧ f.1 = 2) → (R ++ R4).map segOf = joinL (keepC k0 P) Fs) := fun hn => by
      rw [joinL_plain (fun M' m f r h1 h2 h3 => hn (by
        rw [← HR.out] at h1
        rw [← HR4.out] at h2
        obtain ⟨A, B, e1, e2, e3⟩ := List.map_eq_append_iff.1 h1
        obtain ⟨x, e4, e5⟩ := List.map_eq_singleton_iff.1 e3
        obtain ⟨y, t, e6, e7, e8⟩ := List.map_eq_cons_iff.1 h2
        exact ⟨A, x, y, t, by rw [e1, e4], e6, by rw [← e5] at h3; exact h3.1, by rw [← e7] at h3; exact h3.2⟩)), List.map_append, HR.out, HR4.out]
    obtain ⟨mo, mc, rfl⟩ := owns_form HM.out.own
    rw [← hR4l] at g274
    rcases List.eq_nil_or_concat R with hRe | ⟨M', m, hRe⟩
    · have hRz : R.length = 0 := by rw [hRe]; rfl
      have HJO : Hid ((R ++ R4).map segOf = joinL (keepC k0 P) Fs) := HPL.out (fun ⟨M', m, f, r, h1, _⟩ => by rw [hRe] at h1; simp at h1)
      clear hRe
      rw [hRz] at HLA0 ⊢
      have HLA : Hid (Last w3 ba w6 (.slice mo 0 mc) R (some fa) R4) := HLA0.out
      have HDB : Hid (∀ w8, Below w3.heap.size w3 w8 → w8.frozen? ⟨ba, 1, none⟩ = false ∧ ∃ v, w8.cell? ⟨ba, 1, none⟩ = some v) := fun w8 hb => by
        have hd := HD3.out.later hb
        obtain ⟨po, pc, c, _⟩ := hd.path
        exact ⟨hd.f1, _, c⟩
      have HLEN : Hid ((R).length + (R4).length ≤ 8388608) := by unfold Hid; omega
      have HW : Hid (w3.heap.size ≤ (w6).heap.size) := HLA.out.below.size
      go_wp2_with (first | (at_builtin; refine wpList_app_segs rfl _ _ rfl w3.heap.size (.slice mo 0 mc) (R) (R4) rfl (by exact HLA.out.own) (some fa) _ (fc) rfl (by first | rfl | omega) (by exact HLA.out.src) (by exact HW.out) HLEN.out ?_; intro bo bc w8 hend; have HEN : Hid (Ended w3.heap.size (w6) w8 (.slice mo 0 mc) bo bc ((R) ++ (R4))) := hend; have HDN : Hid (Below w3.heap.size w3 w8 ∧ PathL (sans w8 ba) bo (((R) ++ (R4)).map segOf)) := HLA.out.done hend l3; clear hend; have z8 := (HDB.out w8 HDN.out.1).1; obtain ⟨v8, c8⟩ := (HDB.out w8 HDN.out.1).2) | go_in)
      go_end0
      rw [EP.out]
      have em : fPath P (some Fs) = ((R) ++ (R4)).map segOf := by
        show mergeL P Fs = _
        unfold mergeL
        rw [if_pos (by omega), HJO.out, hk0]
      rw [em]
      have hf := (HD3.out.later HDN.out.1).setPath (po := bo) (pc := bc) (P' := ((R) ++ (R4)).map segOf) (by rw [List.length_map]; exact HEN.out.le) HEN.out.top HDN.out.2
      rw [List.length_map] at hf
      refine ⟨rfl, ?_, (HB3.out.trans (HDN.out.1.mono (Nat.le_of_lt l3))).setCell (Nat.le_refl _) _⟩
      first
        | exact hf
        | (rw [List.length_append, hRz, hR4l] at hf; exact hf)
        | (rw [List.length_append, hRz, hR4l, Nat.zero_add] at hf; exact hf)
        | (rw [List.length_append, hRz, h4z, Nat.add_zero] at hf; exact hf)
        | (rw [List.length_append, List.length_append, List.length_singleton] at hf; exact hf)
        | (rw [List.length_append, List.length_append, List.length_singleton, hr0, Nat.add_zero] at hf; exact hf)
        | simpa using hf
    · have hRz : R.length = M'.length + 1 := by rw [hRe]; simp
      have HE : Hid (R = M' ++ [m]) := by unfold Hid; simpa using hRe
      obtain ⟨g, cap, e, hgb, hgl⟩ := HM.out.own.form (by omega)
      simp only [Value.slice.injEq] at e
      obtain ⟨rfl, _, rfl⟩ := e
      have q0 : w6.cell? ⟨g, M'.length * 2, none⟩ = some (.int .u8 m.1) := by
        have := (cellsOf_at R M'.length (by omega)).1
        have h2 := owns_cells HM.out.own _ _ this
        rw [Nat.zero_add] at h2
        rw [h2]
        simp [HE.out]
      clear hRe
      rw [hRz] at HLA0 ⊢
      cases hc4 : R4 with
      | nil =>
        have HJO : Hid ((R ++ R4).map segOf = joinL (keepC k0 P) Fs) := HPL.out (fun ⟨_, _, f, r, _, h1, _⟩ => by rw [hc4] at h1; cases h1)
        have h4z : R4.length = 0 := by rw [hc4]; rfl
        rw [h4z] at g274
        have HLA : Hid (Last w3 ba w6 (.slice (some ⟨g, 0, none⟩) (M'.length + 1) mc) R (some fa) R4) := HLA0.out
        clear hc4
        have HDB : Hid (∀ w8, Below w3.heap.size w3 w8 → w8.frozen? ⟨ba, 1, none⟩ = false ∧ ∃ v, w8.cell? ⟨ba, 1, none⟩ = some v) := fun w8 hb => by
          have hd := HD3.out.later hb
          obtain ⟨po, pc, c, _⟩ := hd.path
          exact ⟨hd.f1, _, c⟩
        have HLEN : Hid ((R).length + (R4).length ≤ 8388608) := by unfold Hid; omega
        have HW : Hid (w3.heap.size ≤ (w6).heap.size) := HLA.out.below.size
        go_wp2_with (first | (at_builtin; refine wpList_app_segs rfl _ _ rfl w3.heap.size (.slice (some ⟨g, 0, none⟩) (M'.length + 1) mc) (R) (R4) rfl (by exact HLA.out.own) (some fa) _ (fc) rfl (by first | rfl | omega) (by exact HLA.out.src) (by exact HW.out) HLEN.out ?_; intro bo bc w8 hend; have HEN : Hid (Ended w3.heap.size (w6) w8 (.slice (some ⟨g, 0, none⟩) (M'.length + 1) mc) bo bc ((R) ++ (R4))) := hend; have HDN : Hid (Below w3.heap.size w3 w8 ∧ PathL (sans w8 ba) bo (((R) ++ (R4)).map segOf)) := HLA.out.done hend l3; clear hend; have z8 := (HDB.out w8 HDN.out.1).1; obtain ⟨v8, c8⟩ := (HDB.out w8 HDN.out.1).2) | go_in)
        go_end0
        rw [EP.out]
        have em : fPath P (some Fs) = ((R) ++ (R4)).map segOf := by
          show mergeL P Fs = _
          unfold mergeL
          rw [if_pos (by omega), HJO.out, hk0]
        rw [em]
        have hf := (HD3.out.later HDN.out.1).setPath (po := bo) (pc := bc) (P' := ((R) ++ (R4)).map segOf) (by rw [List.length_map]; exact HEN.out.le) HEN.out.top HDN.out.2
        rw [List.length_map] at hf
        refine ⟨rfl, ?_, (HB3.out.trans (HDN.out.1.mono (Nat.le_of_lt l3))).setCell (Nat.le_refl _) _⟩
        first
          | exact hf
          | (rw [List.length_append, hRz, hR4l] at hf; exact hf)
          | (rw [List.length_append, hRz, hR4l, Nat.zero_add] at hf; exact hf)
          | (rw [List.length_append, hRz, h4z, Nat.add_zero] at hf; exact hf)
          | (rw [List.length_append, List.length_append, List.length_singleton] at hf; exact hf)
          | (rw [List.length_append, List.length_append, List.length_singleton, hr0, Nat.add_zero] at hf; exact hf)
          | simpa using hf
      | cons f r =>
        have HE4 : Hid (R4 = f :: r) := hc4
        obtain ⟨fb, foff, efa, kk⟩ : ∃ b off, fa = ⟨b, off, none⟩ ∧ ∀ j u, (cellsOf R4)[j]? = some u → w6.cell? ⟨b, off + j, none⟩ = some u := by
          rcases HS4.out with h | ⟨b, off, e, h⟩
          · rw [h] at hc4; cases hc4
          · exact ⟨b, off, by injection e, h⟩
        subst efa
        have kz : w6.cell? ⟨fb, foff, none⟩ = some (.int .u8 f.1) := kk 0 _ (by rw [hc4]; rfl)
        have KK : Hid (∀ j u, (cellsOf R4)[j]? = some u → w6.cell? ⟨fb, foff + j, none⟩ = some u) := kk
        have h4z : R4.length = r.length + 1 := by rw [hc4]; rfl
        rw [h4z] at g274
        clear hc4 kk
        cases hm2 : (m.1 == 2)
        · have HJO : Hid ((R ++ R4).map segOf = joinL (keepC k0 P) Fs) := HPL.out (fun ⟨M2, m2, _, _, h1, _, h3, _⟩ => by
            rw [HE.out] at h1
            obtain ⟨_, h5⟩ := List.append_inj' h1 rfl
            injection h5 with h5
            rw [← h5] at h3
            rw [h3] at hm2
            cases hm2)
          have HLA : Hid (Last w3 ba w6 (.slice (some ⟨g, 0, none⟩) (M'.length + 1) mc) R (some ⟨fb, foff, none⟩) R4) := HLA0.out
          have HDB : Hid (∀ w8, Below w3.heap.size w3 w8 → w8.frozen? ⟨ba, 1, none⟩ = false ∧ ∃ v, w8.cell? ⟨ba, 1, none⟩ = some v) := fun w8 hb => by
            have hd := HD3.out.later hb
            obtain ⟨po, pc, c, _⟩ := hd.path
            exact ⟨hd.f1, _, c⟩
          have HLEN : Hid ((R).length + (R4).length ≤ 8388608) := by unfold Hid; omega
          have HW : Hid (w3.heap.size ≤ (w6).heap.size) := HLA.out.below.size
          go_wp2_with (first | (at_builtin; refine wpList_app_segs rfl _ _ rfl w3.heap.size (.slice (some ⟨g, 0, none⟩) (M'.length + 1) mc) (R) (R4) rfl (by exact HLA.out.own) (some ⟨fb, foff, none⟩) _ (fc) rfl (by first | rfl | omega) (by exact HLA.out.src) (by exact HW.out) HLEN.out ?_; intro bo bc w8 hend; have HEN : Hid (Ended w3.heap.size (w6) w8 (.slice (some ⟨g, 0, none⟩) (M'.length + 1) mc) bo bc ((R) ++ (R4))) := hend; have HDN : Hid (Below w3.heap.size w3 w8 ∧ PathL (sans w8 ba) bo (((R) ++ (R4)).map segOf)) := HLA.out.done hend l3; clear hend; have z8 := (HDB.out w8 HDN.out.1).1; obtain ⟨v8, c8⟩ := (HDB.out w8 HDN.out.1).2) | go_in)
          go_end0
          rw [EP.out]
          have em : fPath P (some Fs) = ((R) ++ (R4)).map segOf := by
            show mergeL P Fs = _
            unfold mergeL
            rw [if_pos (by omega), HJO.out, hk0]
          rw [em]
          have hf := (HD3.out.later HDN.out.1).setPath (po := bo) (pc := bc) (P' := ((R) ++ (R4)).map segOf) (by rw [List.length_map]; exact HEN.out.le) HEN.out.top HDN.out.2
          rw [List.length_map] at hf
          refine ⟨rfl, ?_, (HB3.out.trans (HDN.out.1.mono (Nat.le_of_lt l3))).setCell (Nat.le_refl _) _⟩
          first
            | exact hf
            | (rw [List.length_append, hRz, hR4l] at hf; exact hf)
            | (rw [List.length_append, hRz, hR4l, Nat.zero_add] at hf; exact hf)
            | (rw [List.length_append, hRz, h4z, Nat.add_zero] at hf; exact hf)
            | (rw [List.length_append, List.length_append, List.length_singleton] at hf; exact hf)
            | (rw [List.length_append, List.length_append, List.length_singleton, hr0, Nat.add_zero] at hf; exact hf)
            | simpa using hf
        · cases hf2 : (f.1 == 2)
          · have HJO : Hid ((R ++ R4).map segOf = joinL (keepC k0 P) Fs) := HPL.out (fun ⟨_, _, f2, _, _, h1, _, h3⟩ => by
              rw [HE4.out] at h1
              injection h1 with h1 _
              rw [← h1] at h3
              rw [h3] at hf2
              cases hf2)
            have HLA : Hid (Last w3 ba w6 (.slice (some ⟨g, 0, none⟩) (M'.length + 1) mc) R (some ⟨fb, foff, none⟩) R4) := HLA0.out
            have HDB : Hid (∀ w8, Below w3.heap.size w3 w8 → w8.frozen? ⟨ba, 1, none⟩ = false ∧ ∃ v, w8.cell? ⟨ba, 1, none⟩ = some v) := fun w8 hb => by
              have hd := HD3.out.later hb
              obtain ⟨po, pc, c, _⟩ := hd.path
              exact ⟨hd.f1, _, c⟩
            have HLEN : Hid ((R).length + (R4).length ≤ 8388608) := by unfold Hid; omega
            have HW : Hid (w3.heap.size ≤ (w6).heap.size) := HLA.out.below.size
            go_wp2_with (first | (at_builtin; refine wpList_app_segs rfl _ _ rfl w3.heap.size (.slice (some ⟨g, 0, none⟩) (M'.length + 1) mc) (R) (R4) rfl (by exact HLA.out.own) (some ⟨fb, foff, none⟩) _ (fc) rfl (by first | rfl | omega) (by exact HLA.out.src) (by exact HW.out) HLEN.out ?_; intro bo bc w8 hend; have HEN : Hid (Ended w3.heap.size (w6) w8 (.slice (some ⟨g, 0, none⟩) (M'.length + 1) mc) bo bc ((R) ++ (R4))) := hend; have HDN : Hid (Below w3.heap.size w3 w8 ∧ PathL (sans w8 ba) bo (((R) ++ (R4)).map segOf)) := HLA.out.done hend l3; clear hend; have z8 := (HDB.out w8 HDN.out.1).1; obtain ⟨v8, c8⟩ := (HDB.out w8 HDN.out.1).2) | go_in)
            go_end0
            rw [EP.out]
            have em : fPath P (some Fs) = ((R) ++ (R4)).map segOf := by
              show mergeL P Fs = _
              unfold mergeL
              rw [if_pos (by omega), HJO.out, hk0]
            rw [em]
            have hf := (HD3.out.later HDN.out.1).setPath (po := bo) (pc := bc) (P' := ((R) ++ (R4)).map segOf) (by rw [List.length_map]; exact HEN.out.le) HEN.out.top HDN.out.2
            rw [List.length_map] at hf
            refine ⟨rfl, ?_, (HB3.out.trans (HDN.out.1.mono (Nat.le_of_lt l3))).setCell (Nat.le_refl _) _⟩
            first
              | exact hf
              | (rw [List.length_append, hRz, hR4l] at hf; exact hf)
              | (rw [List.length_append, hRz, hR4l, Nat.zero_add] at hf; exact hf)
              | (rw [List.length_append, hRz, h4z, Nat.add_zero] at hf; exact hf)
              | (rw [List.length_append, List.length_append, List.length_singleton] at hf; exact hf)
              | (rw [List.length_append, List.length_append, List.length_singleton, hr0, Nat.add_zero] at hf; exact hf)
              | simpa using hf
          · have em1 : m.1 = 2 := by simpa using hm2
            have ef1 : f.1 = 2 := by simpa using hf2
            have hcap : m.2.2.2 = m.2.1.length := HM.out.seq m (by rw [HE.out]; simp) em1
            have q1 : w6.cell? ⟨g, M'.length * 2 + 1, none⟩ = some (.slice m.2.2.1 m.2.1.length m.2.1.length) := by
              have := (cellsOf_at R M'.length (by omega)).2
              have h2 := owns_cells HM.out.own _ _ this
              rw [Nat.zero_add] at h2
              rw [h2]
              simp [HE.out, valOf, hcap]
            have z1 : w6.frozen? ⟨g, M'.length * 2 + 1, none⟩ = false := owns_frozen HM.out.own _
            have k1 : w6.cell? ⟨fb, foff + 1, none⟩ = some (.slice f.2.2.1 f.2.1.length f.2.2.2) := KK.out 1 _ (by rw [HE4.out]; rfl)
            have hfl : fb < w3.heap.size := by
              obtain ⟨b, off, _, _, e, t0, _⟩ := HFO3.out.at (i := 0) (by omega)
              injection e with e
              have hl := cell_lt (sans_cell t0).1
              injection e with e1 e2
              rw [e1]; exact hl
            have HGM : Hid (Good (sans w3 ba) m) := HM.out.good m (by rw [HE.out]; simp)
            have HGF : Hid (Good (sans w3 ba) f) := HG4.out f (by rw [HE4.out]; simp)
            have HB36 : Hid (∀ a v, (sans w3 ba).cell? a = some v → w6.cell? a = some v) := fun a v ha => by
              have h1 := (sans_cell ha).1
              exact (World.cell?_of_block (HM.out.below.block _ (cell_lt h1))).trans h1
            have HA1 : Hid (AsnsF w6 m.2.2.1 m.2.1) := HGM.out.asns.keep HB36.out
            have HA2 : Hid (AsnsF w6 f.2.2.1 f.2.1) := HGF.out.asns.keep HB36.out
            have HSUM : Hid (m.2.1.length + f.2.1.length ≤ 4194304) := by
              unfold Hid
              have hmem : segOf m ∈ keepC k0 P := by rw [← HR.out, HE.out]; simp
              obtain ⟨t, ht, hl⟩ := (keepC_fits P k0).2 _ hmem
              have h1 := hP.2 t ht
              have h2 := hF.2 (segOf f) (by rw [← HR4.out, HE4.out]; simp)
              have h3 : m.2.1.length ≤ t.2.length := hl
              have h4 : f.2.1.length ≤ 1048576 := h2
              omega
            have hix : (M'.length : Int) < (M'.length : Int) + 1 := by omega
            go_upto_region 25 with fail
            refine wp_region_held_drew (S := (fun w' : World => w'.cell? ⟨fb, foff + 1, none⟩ = some (.slice f.2.2.1 f.2.1.length f.2.2.2))) (by kernel_rfl) k1 (fun hHeld => ?_)
            simp only [List.size_toArray, List.length_cons, List.length_nil, Nat.reduceAdd]
            refine wpAnyH_take (i := 0) (oi := _) (v := ?_) rfl (by kernel_rfl) (by kernel_rfl) (by kernel_rfl) (fun _ _ _ h => h) (Or.inl ⟨by rfl, ?_⟩) hHeld ?_
            rotate_left
            · intro w hSw
              go_simp
              try rfl
            simp only [List.getElem_toArray, List.getElem_cons_zero, Act.put, List.setIfInBounds_toArray, List.set_cons_zero, List.set_cons_succ]
            refine wpAnyH_take (i := 1) (oi := _) (v := ?_) rfl (by kernel_rfl) (by kernel_rfl) (by kernel_rfl) (fun _ _ _ h => h) (Or.inl ⟨by rfl, ?_⟩) hHeld ?_
            rotate_left
            · intro w hSw
              go_simp
              try rfl
            simp only [List.getElem_toArray, List.getElem_cons_zero, List.getElem_cons_succ, Act.put, List.setIfInBounds_toArray, List.set_cons_zero, List.set_cons_succ]
            refine wpAnyH_take (i := 2) (oi := _) (v := ?_) rfl (by kernel_rfl) (by kernel_rfl) (by kernel_rfl) (fun _ _ _ h => h) (Or.inl ⟨by rfl, ?_⟩) hHeld ?_
            rotate_left
            · intro w hSw
              go_simp
              try rfl
            simp only [List.getElem_toArray, List.getElem_cons_zero, List.getElem_cons_succ, Act.put, List.setIfInBounds_toArray, List.set_cons_zero, List.set_cons_succ]
            refine wpAnyH_take (i := 3) (oi := _) (v := ?_) rfl (by kernel_rfl) (by kernel_rfl) (by kernel_rfl) (fun _ _ _ h => h) (Or.inl ⟨by rfl, ?_⟩) hHeld ?_
            rotate_left
            · intro w hSw
              go_simp
              try rfl
            simp only [List.getElem_toArray, List.getElem_cons_zero, List.getElem_cons_succ, Act.put, List.setIfInBounds_toArray, List.set_cons_zero, List.set_cons_succ]
            refine wpAnyH_take (i := 4) (oi := _) (v := ?_) rfl (by kernel_rfl) (by kernel_rfl) (by kernel_rfl) (fun _ _ _ h => h) (Or.inl ⟨by rfl, ?_⟩) hHeld ?_
            rotate_left
            · intro w hSw
              go_simp
              try rfl
            simp only [List.getElem_toArray, List.getElem_cons_zero, List.getElem_cons_succ, Act.put, List.setIfInBounds_toArray, List.set_cons_zero, List.set_cons_succ]
            refine wpAnyH_take (i := 5) (oi := _) (v := ?_) rfl (by kernel_rfl) (by kernel_rfl) (by kernel_rfl) (fun _ _ _ h => h) (Or.inl ⟨by rfl, ?_⟩) hHeld ?_
            rotate_left
            · intro w hSw
              go_simp
              try rfl
            simp only [List.getElem_toArray, List.getElem_cons_zero, List.getElem_cons_succ, Act.put, List.setIfInBounds_toArray, List.set_cons_zero, List.set_cons_succ]
            refine wpAnyH_take (i := 7) (oi := _) (v := ?_) rfl (by kernel_rfl) (by kernel_rfl) (by kernel_rfl) (fun _ _ _ h => h) (Or.inl ⟨by rfl, ?_⟩) hHeld ?_
            rotate_left
            · intro w hSw
              go_simp
              try rfl
            simp only [List.getElem_toArray, List.getElem_cons_zero, List.getElem_cons_succ, Act.put, List.setIfInBounds_toArray, List.set_cons_zero, List.set_cons_succ]
            refine wpAnyH_take (i := 8) (oi := _) (v := ?_) rfl (by kernel_rfl) (by kernel_rfl) (by kernel_rfl) (fun _ _ _ h => h) (Or.inl ⟨by rfl, ?_⟩) hHeld ?_
            rotate_left
            · intro w hSw
              go_simp
              try rfl
            simp only [List.getElem_toArray, List.getElem_cons_zero, List.getElem_cons_succ, Act.put, List.setIfInBounds_toArray, List.set_cons_zero, List.set_cons_succ]
            refine wpAnyH_take (i := 9) (oi := _) (v := ?_) rfl (by kernel_rfl) (by kernel_rfl) (by kernel_rfl) (fun _ _ _ h => h) (Or.inl ⟨by rfl, ?_⟩) hHeld ?_
            rotate_left
            · intro w hSw
              go_simp
              try rfl
            simp only [List.getElem_toArray, List.getElem_cons_zero, List.getElem_cons_succ, Act.put, List.setIfInBounds_toArray, List.set_cons_zero, List.set_cons_succ]
            refine wpAnyH_take (i := 10) (oi := _) (v := ?_) rfl (by kernel_rfl) (by kernel_rfl) (by kernel_rfl) (fun _ _ _ h => h) (Or.inl ⟨by rfl, ?_⟩) hHeld ?_
            rotate_left
            · intro w hSw
              go_simp
              try rfl
            simp only [List.getElem_toArray, List.getElem_cons_zero, List.getElem_cons_succ, Act.put, List.setIfInBounds_toArray, List.set_cons_zero, List.set_cons_succ]
            refine wpAnyH_ready (rs := [6]) (by kernel_rfl) (by simp) ?_
            refine AllReadyH.cons (o := _) rfl (fun K hK => ?_) AllReadyH.nil
            go_simp
            refine hK.out _ _ k1 (fun hHeld => ?_)
            clear hK K
            refine wpAnyH_ready (rs := [11]) (by kernel_rfl) (by simp) ?_
            refine AllReadyH.cons (o := _) rfl (fun K hK => ?_) AllReadyH.nil
            refine step_app_asns (by rfl) _ _ (by rfl) m.2.2.1 m.2.1 f.2.2.1 f.2.1 f.2.2.2 (by rfl) (by rfl) (by exact HA1.out) (by exact HA2.out) HSUM.out ?_
            intro bj bk w7 hj
            have HJ : Hid (Joined w6 w7 m.2.2.1 bj bk m.2.1 f.2.1) := ⟨hj.all, hj.fresh, hj.same, hj.le, hj.top, hj.nil, ⟨hj.below.os, hj.below.tape, hj.below.output, hj.below.size, hj.below.block⟩⟩
            clear hj
            have hgw : w7.heap[g]? = w6.heap[g]? := HJ.out.below.block _ hgl
            have k7 := (HJ.out.below.cell (p := ⟨fb, foff + 1, none⟩) (cell_lt k1)).trans k1
            have q7 : w7.cell? ⟨g, M'.length * 2 + 1, none⟩ = some (.slice m.2.2.1 m.2.1.length m.2.1.length) := (World.cell?_of_block hgw).trans q1
            have z7 : w7.frozen? ⟨g, M'.length * 2 + 1, none⟩ = false := (World.frozen?_of_block hgw).trans z1
            refine hK.out _ _ k7 (fun hHeld => ?_)
            clear hK K
            try simp only [List.getElem_toArray, List.getElem_cons_zero, List.getElem_cons_succ, Act.put, List.setIfInBounds_toArray, List.set_cons_zero, List.set_cons_succ]
            refine wpAnyH_take (i := 12) (oi := _) (v := ?_) rfl (by kernel_rfl) (by kernel_rfl) (by kernel_rfl) (fun _ _ _ h => h) (Or.inl ⟨by rfl, ?_⟩) hHeld ?_
            rotate_left
            · intro w hSw
              go_simp
              try rfl
            simp only [List.getElem_toArray, List.getElem_cons_zero, List.getElem_cons_succ, Act.put, List.setIfInBounds_toArray, List.set_cons_zero, List.set_cons_succ]
            refine wpAnyH_take (i := 13) (oi := _) (v := ?_) rfl (by kernel_rfl) (by kernel_rfl) (by kernel_rfl) (fun _ _ _ h => h) (Or.inl ⟨by rfl, ?_⟩) hHeld ?_
            rotate_left
            · intro w hSw
              go_simp
              try rfl
            simp only [List.getElem_toArray, List.getElem_cons_zero, List.getElem_cons_succ, Act.put, List.setIfInBounds_toArray, List.set_cons_zero, List.set_cons_succ]
            refine wpAnyH_ready (rs := [14]) (by kernel_rfl) (by simp) ?_
            refine AllReadyH.cons (o := _) rfl (fun K hK => ?_) AllReadyH.nil
            go_simp
            refine hK.out _ _ ((cell_far (by simp; omega)).trans k7) (fun hHeld => ?_)
            clear hK K
            refine wpAnyH_done (by kernel_rfl) ?_ _
            by_cases hfc : fc = 1
            · have hr0 : r.length = 0 := by omega
              have HLA : Hid (Last w3 ba (w7.setCell ⟨g, M'.length * 2 + 1, none⟩ (.slice bj (m.2.1.length + f.2.1.length) bk)) (.slice (some ⟨g, 0, none⟩) (M'.length + 1) mc) (M' ++ [((2 : Int), m.2.1 ++ f.2.1, bj, bk)]) (some ⟨fb, foff, none⟩) r) := by
                have hbw : Below w3.heap.size w3 (w7.setCell ⟨g, M'.length * 2 + 1, none⟩ (.slice bj (m.2.1.length + f.2.1.length) bk)) := (HM.out.below.trans (HJ.out.below.mono hw6)).setCell hgb _
                have hrow : ∀ q, (Value.slice (some ⟨g, 0, none⟩) (M'.length + 1) mc).ownBlock = some q → w3.heap.size ≤ q := fun q hq => by injection hq with hq; simp at hq; omega
                refine ⟨?_, fun x hx => ?_, ?_, hbw⟩
                · have h1 := owns_set (owns_of_block HM.out.own hgw) (M'.length * 2 + 1) (.slice bj (m.2.1.length + f.2.1.length) bk)
                  rw [HE.out, cellsOf_set M' m (.slice bj (m.2.1.length + f.2.1.length) bk) ((2 : Int), m.2.1 ++ f.2.1, bj, bk) em1.symm (by unfold valOf; simp)] at h1
                  simpa using h1
                · rcases List.mem_append.1 hx with h | h
                  · rcases List.mem_append.1 h with h | h
                    · exact good_old (HM.out.good x (by rw [HE.out]; simp [h])) hbw hrow l3
                    · rw [List.mem_singleton.1 h]
                      refine good_joined (ec := m.2.2.2) HJ.out ?_ HM.out.below hgb hgl l3
                      have := HGM.out
                      rw [← em1]
                      exact this
                  · exact good_old (HG4.out x (by rw [HE4.out]; simp [h])) hbw hrow l3
                · exact .inl (List.eq_nil_of_length_eq_zero hr0)
              have HJO : Hid (((M' ++ [((2 : Int), m.2.1 ++ f.2.1, bj, bk)]) ++ r).map segOf = joinL (keepC k0 P) Fs) := by
                unfold Hid
                rw [← HR.out, ← HR4.out, HE.out, HE4.out]
                have e1 : segOf m = (2, m.2.1) := by unfold segOf; rw [em1]
                have e2 : segOf f = (2, f.2.1) := by unfold segOf; rw [ef1]
                simp only [List.map_append, List.map_cons, List.map_nil, e1, e2, joinL_one]
                simp [segOf]
              have HDB : Hid (∀ w8, Below w3.heap.size w3 w8 → w8.frozen? ⟨ba, 1, none⟩ = false ∧ ∃ v, w8.cell? ⟨ba, 1, none⟩ = some v) := fun w8 hb => by
                have hd := HD3.out.later hb
                obtain ⟨po, pc, c, _⟩ := hd.path
                exact ⟨hd.f1, _, c⟩
              have HLEN : Hid ((M' ++ [((2 : Int), m.2.1 ++ f.2.1, bj, bk)]).length + (r).length ≤ 8388608) := by unfold Hid; simp; omega
              have HW : Hid (w3.heap.size ≤ (w7.setCell ⟨g, M'.length * 2 + 1, none⟩ (.slice bj (m.2.1.length + f.2.1.length) bk)).heap.size) := HLA.out.below.size
              go_wp2_with (first | (at_builtin; refine wpList_app_segs rfl _ _ rfl w3.heap.size (.slice (some ⟨g, 0, none⟩) (M'.length + 1) mc) (M' ++ [((2 : Int), m.2.1 ++ f.2.1, bj, bk)]) (r) rfl (by exact HLA.out.own) (some ⟨fb, foff, none⟩) _ (_) rfl (by first | rfl | omega) (by exact HLA.out.src) (by exact HW.out) HLEN.out ?_; intro bo bc w8 hend; have HEN : Hid (Ended w3.heap.size (w7.setCell ⟨g, M'.length * 2 + 1, none⟩ (.slice bj (m.2.1.length + f.2.1.length) bk)) w8 (.slice (some ⟨g, 0, none⟩) (M'.length + 1) mc) bo bc ((M' ++ [((2 : Int), m.2.1 ++ f.2.1, bj, bk)]) ++ (r))) := hend; have HDN : Hid (Below w3.heap.size w3 w8 ∧ PathL (sans w8 ba) bo (((M' ++ [((2 : Int), m.2.1 ++ f.2.1, bj, bk)]) ++ (r)).map segOf)) := HLA.out.done hend l3; clear hend; have z8 := (HDB.out w8 HDN.out.1).1; obtain ⟨v8, c8⟩ := (HDB.out w8 HDN.out.1).2) | go_in)
              go_end0
              rw [EP.out]
              have em : fPath P (some Fs) = ((M' ++ [((2 : Int), m.2.1 ++ f.2.1, bj, bk)]) ++ (r)).map segOf := by
                show mergeL P Fs = _
                unfold mergeL
                rw [if_pos (by omega), HJO.out, hk0]
              rw [em]
              have hf := (HD3.out.later HDN.out.1).setPath (po := bo) (pc := bc) (P' := ((M' ++ [((2 : Int), m.2.1 ++ f.2.1, bj, bk)]) ++ (r)).map segOf) (by rw [List.length_map]; exact HEN.out.le) HEN.out.top HDN.out.2
              rw [List.length_map] at hf
              refine ⟨rfl, ?_, (HB3.out.trans (HDN.out.1.mono (Nat.le_of_lt l3))).setCell (Nat.le_refl _) _⟩
              first
                | exact hf
                | (rw [List.length_append, hRz, hR4l] at hf; exact hf)
                | (rw [List.length_append, hRz, hR4l, Nat.zero_add] at hf; exact hf)
                | (rw [List.length_append, hRz, h4z, Nat.add_zero] at hf; exact hf)
                | (rw [List.length_append, List.length_append, List.length_singleton] at hf; exact hf)
                | (rw [List.length_append, List.length_append, List.length_singleton, hr0, Nat.add_zero] at hf; exact hf)
                | simpa using hf
            · have hfc1 : ¬ fc - 1 = 0 := by omega
              have hfc2 : ¬ fc ≤ 1 := by omega
              have HLA : Hid (Last w3 ba (w7.setCell ⟨g, M'.length * 2 + 1, none⟩ (.slice bj (m.2.1.length + f.2.1.length) bk)) (.slice (some ⟨g, 0, none⟩) (M'.length + 1) mc) (M' ++ [((2 : Int), m.2.1 ++ f.2.1, bj, bk)]) (some ⟨fb, foff + 2, none⟩) r) := by
                have hbw : Below w3.heap.size w3 (w7.setCell ⟨g, M'.length * 2 + 1, none⟩ (.slice bj (m.2.1.length + f.2.1.length) bk)) := (HM.out.below.trans (HJ.out.below.mono hw6)).setCell hgb _
                have hrow : ∀ q, (Value.slice (some ⟨g, 0, none⟩) (M'.length + 1) mc).ownBlock = some q → w3.heap.size ≤ q := fun q hq => by injection hq with hq; simp at hq; omega
                refine ⟨?_, fun x hx => ?_, ?_, hbw⟩
                · have h1 := owns_set (owns_of_block HM.out.own hgw) (M'.length * 2 + 1) (.slice bj (m.2.1.length + f.2.1.length) bk)
                  rw [HE.out, cellsOf_set M' m (.slice bj (m.2.1.length + f.2.1.length) bk) ((2 : Int), m.2.1 ++ f.2.1, bj, bk) em1.symm (by unfold valOf; simp)] at h1
                  simpa using h1
                · rcases List.mem_append.1 hx with h | h
                  · rcases List.mem_append.1 h with h | h
                    · exact good_old (HM.out.good x (by rw [HE.out]; simp [h])) hbw hrow l3
                    · rw [List.mem_singleton.1 h]
                      refine good_joined (ec := m.2.2.2) HJ.out ?_ HM.out.below hgb hgl l3
                      have := HGM.out
                      rw [← em1]
                      exact this
                  · exact good_old (HG4.out x (by rw [HE4.out]; simp [h])) hbw hrow l3
                · refine .inr ⟨fb, foff + 2, rfl, fun j u hu => ?_⟩
                  have h1 := KK.out (j + 2) u (by rw [HE4.out]; simpa [cellsOf] using hu)
                  have h2 := (HJ.out.below.cell (p := ⟨fb, foff + (j + 2), none⟩) (cell_lt h1)).trans h1
                  have e3 : foff + 2 + j = foff + (j + 2) := by omega
                  rw [e3]
                  exact (cell_far (by show fb ≠ g; omega)).trans h2
              have HJO : Hid (((M' ++ [((2 : Int), m.2.1 ++ f.2.1, bj, bk)]) ++ r).map segOf = joinL (keepC k0 P) Fs) := by
                unfold Hid
                rw [← HR.out, ← HR4.out, HE.out, HE4.out]
                have e1 : segOf m = (2, m.2.1) := by unfold segOf; rw [em1]
                have e2 : segOf f = (2, f.2.1) := by unfold segOf; rw [ef1]
                simp only [List.map_append, List.map_cons, List.map_nil, e1, e2, joinL_one]
                simp [segOf]
              have HDB : Hid (∀ w8, Below w3.heap.size w3 w8 → w8.frozen? ⟨ba, 1, none⟩ = false ∧ ∃ v, w8.cell? ⟨ba, 1, none⟩ = some v) := fun w8 hb => by
                have hd := HD3.out.later hb
                obtain ⟨po, pc, c, _⟩ := hd.path
                exact ⟨hd.f1, _, c⟩
              have HLEN : Hid ((M' ++ [((2 : Int), m.2.1 ++ f.2.1, bj, bk)]).length + (r).length ≤ 8388608) := by unfold Hid; simp; omega
              have HW : Hid (w3.heap.size ≤ (w7.setCell ⟨g, M'.length * 2 + 1, none⟩ (.slice bj (m.2.1.length + f.2.1.length) bk)).heap.size) := HLA.out.below.size
              go_wp2_with (first | (at_builtin; refine wpList_app_segs rfl _ _ rfl w3.heap.size (.slice (some ⟨g, 0, none⟩) (M'.length + 1) mc) (M' ++ [((2 : Int), m.2.1 ++ f.2.1, bj, bk)]) (r) rfl (by exact HLA.out.own) (some ⟨fb, foff + 2, none⟩) _ (_) rfl (by first | rfl | omega) (by exact HLA.out.src) (by exact HW.out) HLEN.out ?_; intro bo bc w8 hend; have HEN : Hid (Ended w3.heap.size (w7.setCell ⟨g, M'.length * 2 + 1, none⟩ (.slice bj (m.2.1.length + f.2.1.length) bk)) w8 (.slice (some ⟨g, 0, none⟩) (M'.length + 1) mc) bo bc ((M' ++ [((2 : Int), m.2.1 ++ f.2.1, bj, bk)]) ++ (r))) := hend; have HDN : Hid (Below w3.heap.size w3 w8 ∧ PathL (sans w8 ba) bo (((M' ++ [((2 : Int), m.2.1 ++ f.2.1, bj, bk)]) ++ (r)).map segOf)) := HLA.out.done hend l3; clear hend; have z8 := (HDB.out w8 HDN.out.1).1; obtain ⟨v8, c8⟩ := (HDB.out w8 HDN.out.1).2) | go_in)
              go_end0
              rw [EP.out]
              have em : fPath P (some Fs) = ((M' ++ [((2 : Int), m.2.1 ++ f.2.1, bj, bk)]) ++ (r)).map segOf := by
                show mergeL P Fs = _
                unfold mergeL
                rw [if_pos (by omega), HJO.out, hk0]
              rw [em]
              have hf := (HD3.out.later HDN.out.1).setPath (po := bo) (pc := bc) (P' := ((M' ++ [((2 : Int), m.2.1 ++ f.2.1, bj, bk)]) ++ (r)).map segOf) (by rw [List.length_map]; exact HEN.out.le) HEN.out.top HDN.out.2
              rw [List.length_map] at hf
              refine ⟨rfl, ?_, (HB3.out.trans (HDN.out.1.mono (Nat.le_of_lt l3))).setCell (Nat.le_refl _) _⟩
              first
                | exact hf
                | (rw [List.length_append, hRz, hR4l] at hf; exact hf)
                | (rw [List.length_append, hRz, hR4l, Nat.zero_add] at hf; exact hf)
                | (rw [List.length_append, hRz, h4z, Nat.add_zero] at hf; exact hf)
                | (rw [List.length_append, List.length_append, List.length_singleton] at hf; exact hf)
                | (rw [List.length_append, List.length_append, List.length_singleton, hr0, Nat.add_zero] at hf; exact hf)
                | simpa using hf
end Go.Proofs.Qxb6614704aMods
