/-
  The second law's own function.
-/
import Derived.Test.Qxb6614704aModsFlow
import Derived.Test.Qxb6614704aModsIs
import Derived.Test.Qxb6614704aModsSame
import Derived.Deep.CutBlock
namespace Go.Proofs.Qxb6614704aMods
open Go.RowKit

set_option maxRecDepth 100000 in
set_option maxHeartbeats 12800000 in
theorem main5 (x0 x3 x5 : Bool) (x4 x6 : Int) (a1 a2 a7 a8 : Option Addr) (n1 n2 n7 n8 c1 c2 c7 c8 : Nat) (ty1 ty7 : Nat → Int) (z2 z8 : Nat → List Int) (w : World)
    (h1 : U8At w a1 n1 ty1) (h2 : RowsAt w a2 n2 z2) (h7 : U8At w a7 n7 ty7) (h8 : RowsAt w a8 n8 z8) (b1 : n1 ≤ maxLen) (b2 : n2 ≤ maxLen) (b7 : n7 ≤ maxLen) (b8 : n8 ≤ maxLen)
    (k1 : a1 = none → n1 = 0 ∧ c1 = 0) (k2 : a2 = none → n2 = 0 ∧ c2 = 0) (k7 : a7 = none → n7 = 0 ∧ c7 = 0) (k8 : a8 = none → n8 = 0 ∧ c8 = 0) :
    Calls Trym.prog 5 #[.bool x0, .slice a1 n1 c1, .slice a2 n2 c2, .bool x3, .int .u32 x4, .bool x5, .int .u32 x6, .slice a7 n7 c7, .slice a8 n8 c8] w fun e w' => e = .returned (.bool true) ∧ Below w.heap.size w w' := by
  have H1 : Hid (U8At w a1 n1 ty1) := h1
  have H2 : Hid (RowsAt w a2 n2 z2) := h2
  have H7 : Hid (U8At w a7 n7 ty7) := h7
  have H8 : Hid (RowsAt w a8 n8 z8) := h8
  have K1 : Hid (a1 = none → n1 = 0 ∧ c1 = 0) := k1
  have K2 : Hid (a2 = none → n2 = 0 ∧ c2 = 0) := k2
  have K7 : Hid (a7 = none → n7 = 0 ∧ c7 = 0) := k7
  have K8 : Hid (a8 = none → n8 = 0 ∧ c8 = 0) := k8
  have B : Hid (n1 ≤ maxLen ∧ n2 ≤ maxLen ∧ n7 ≤ maxLen ∧ n8 ≤ maxLen) := ⟨b1, b2, b7, b8⟩
  clear h1 h2 h7 h8 k1 k2 k7 k8 b1 b2 b7 b8
  go_enter Trym.func5, Trym.ntmps5
  go_wp2_with fail
  refine (zzBytes24_any x0 x3 x5 x4 x6 a1 a2 a7 a8 n1 n2 n7 n8 c1 c2 c7 c8 z2 z8 w H2.out H8.out B.out.1 B.out.2.1 B.out.2.2.1 B.out.2.2.2).mono ?_
  rintro e w' ⟨⟨t, rfl, ht⟩, rfl⟩
  rename World => w0
  cases t
  · go_wp2_with fail
    go_ret
    exact ⟨rfl, Below.refl _ _⟩
  obtain ⟨b1, b2, b7, b8⟩ := ht rfl
  clear ht
  go_wp2_with fail
  refine (b1MergeBytes_any a1 a2 a7 a8 n1 n2 n7 n8 c1 c2 c7 c8 z2 z8 w0 H2.out H8.out b1 b2 b7 b8).mono ?_
  rintro e w' ⟨⟨k, rfl, hk⟩, rfl⟩
  rename World => w0
  by_cases hkb : 1048576 < k
  · go_wp2_with fail
    go_ret
    exact ⟨rfl, Below.refl _ _⟩
  have S : Hid (Small n2 z2 ∧ Small n8 z8) := hk (by omega)
  clear hk
  by_cases e12 : n1 = n2
  case neg =>
    have e12i : ¬ (n1 : Int) = (n2 : Int) := by omega
    go_wp2_with fail
    go_ret
    exact ⟨rfl, Below.refl _ _⟩
  subst e12
  by_cases e78 : n7 = n8
  case neg =>
    have e78i : ¬ (n7 : Int) = (n8 : Int) := by omega
    go_wp2_with fail
    go_ret
    exact ⟨rfl, Below.refl _ _⟩
  subst e78
  go_wp2_with fail
  refine (b1CloneU8_any a1 n1 c1 ty1 w0 H1.out b1 K1.out).mono ?_
  rintro e w1 ⟨⟨d1, g1, rfl, hu1, _⟩, hb1⟩
  have HB1 : Hid (Below w0.heap.size w0 w1) := hb1
  have U1 : Hid (U8At w1 d1 n1 ty1) := hu1
  clear hu1 hb1
  go_wp2_with fail
  refine (b1CloneU32s_any a2 n1 c2 z2 w1 (H2.out.later (Nat.le_refl _) HB1.out) S.out.1 K2.out).mono ?_
  rintro e w2 ⟨⟨d2, g2, rfl, hu2⟩, hb2⟩
  have HB2 : Hid (Below w0.heap.size w0 w2) := HB1.out.trans (hb2.mono HB1.out.size)
  have U1 : Hid (U8At w2 d1 n1 ty1) := U1.out.later (Nat.le_refl _) hb2
  have U2 : Hid (RowsAt w2 d2 n1 z2) := hu2
  clear hu2 hb2
  go_wp2_with fail
  refine (b1CloneU8_any a7 n7 c7 ty7 w2 (H7.out.later (Nat.le_refl _) HB2.out) b7 K7.out).mono ?_
  rintro e w3 ⟨⟨d7, g7, rfl, hu7, _⟩, hb3⟩
  have HB3 : Hid (Below w0.heap.size w0 w3) := HB2.out.trans (hb3.mono HB2.out.size)
  have U1 : Hid (U8At w3 d1 n1 ty1) := U1.out.later (Nat.le_refl _) hb3
  have U2 : Hid (RowsAt w3 d2 n1 z2) := U2.out.later (Nat.le_refl _) hb3
  have U7 : Hid (U8At w3 d7 n7 ty7) := hu7
  clear hu7 hb3
  go_wp2_with fail
  refine (b1CloneU32s_any a8 n7 c8 z8 w3 (H8.out.later (Nat.le_refl _) HB3.out) S.out.2 K8.out).mono ?_
  rintro e w4 ⟨⟨d8, g8, rfl, hu8⟩, hb4⟩
  have HB4 : Hid (Below w0.heap.size w0 w4) := HB3.out.trans (hb4.mono HB3.out.size)
  have U1 : Hid (U8At w4 d1 n1 ty1) := U1.out.later (Nat.le_refl _) hb4
  have U2 : Hid (RowsAt w4 d2 n1 z2) := U2.out.later (Nat.le_refl _) hb4
  have U7 : Hid (U8At w4 d7 n7 ty7) := U7.out.later (Nat.le_refl _) hb4
  have U8 : Hid (RowsAt w4 d8 n7 z8) := hu8
  clear hu8 hb4
  go_wp2_with fail
  refine (new_any x0 x3 x5 x4 x6 d1 d2 d7 d8 n1 n7 g1 g2 g7 g8 ty1 ty7 z2 z8 w4 U1.out U2.out U7.out U8.out S.out.1 S.out.2).mono ?_
  rintro e w5 ⟨⟨ba, bd, rfl, hba, hdec⟩, hb5⟩
  have HBA : Hid (w4.heap.size ≤ ba) := hba
  have HB5 : Hid (Below w4.heap.size w4 w5) := hb5
  have HD5 : Hid (Dec w5 ba bd x0 (segsOf n1 ty1 z2) (aggOf x3 x4) (aggOf x5 x6) (fourOf d7 (segsOf n7 ty7 z8))) := hdec
  clear hba hb5 hdec
  go_wp2_with fail
  refine (zzmerge_any ba bd x0 _ _ _ _ w5 HD5.out ((segs_fits ty1 S.out.1).up (by omega)) (four_fits (segs_fits ty7 S.out.2))).mono ?_
  rintro e w6 ⟨rfl, hd6, hb6⟩
  have HB6 : Hid (Below w4.heap.size w4 w6) := HB5.out.trans (hb6.mono HBA.out)
  have HB06 : Hid (Below w0.heap.size w0 w6) := HB4.out.trans (HB6.out.mono HB4.out.size)
  have U1 : Hid (U8At w6 d1 n1 ty1) := U1.out.later (Nat.le_refl _) HB6.out
  have U2 : Hid (RowsAt w6 d2 n1 z2) := U2.out.later (Nat.le_refl _) HB6.out
  have U7 : Hid (U8At w6 d7 n7 ty7) := U7.out.later (Nat.le_refl _) HB6.out
  have U8 : Hid (RowsAt w6 d8 n7 z8) := U8.out.later (Nat.le_refl _) HB6.out
  have HD6 : Hid (Dec w6 ba bd x0 (mPath x0 (segsOf n1 ty1 z2) (aggOf x3 x4) (fourOf d7 (segsOf n7 ty7 z8))) (mAgg x0 (aggOf x3 x4) (aggOf x5 x6)) (aggOf x5 x6) (fourOf d7 (segsOf n7 ty7 z8))) := hd6
  clear hd6 hb6 HD5 HB5 HBA HB4 HB6 HB1 HB2 HB3 H1 H2 H7 H8 K1 K2 K7 K8 B
  -- from here on: the second decoder
  go_wp2_with fail
  refine (new_any x0 x3 x5 x4 x6 d1 d2 d7 d8 n1 n7 g1 g2 g7 g8 ty1 ty7 z2 z8 w6 U1.out U2.out U7.out U8.out S.out.1 S.out.2).mono ?_
  rintro e w7 ⟨⟨ba2, bd2, rfl, hba, hdec⟩, hb7⟩
  have HBA : Hid (w6.heap.size ≤ ba2) := hba
  have HB7 : Hid (Below w6.heap.size w6 w7) := hb7
  have HD7 : Hid (Dec w7 ba2 bd2 x0 (segsOf n1 ty1 z2) (aggOf x3 x4) (aggOf x5 x6) (fourOf d7 (segsOf n7 ty7 z8))) := hdec
  clear hba hb7 hdec
  go_wp2_with fail
  refine (zzmerge_any ba2 bd2 x0 _ _ _ _ w7 HD7.out ((segs_fits ty1 S.out.1).up (by omega)) (four_fits (segs_fits ty7 S.out.2))).mono ?_
  rintro e w8 ⟨rfl, hd8, hb8⟩
  have HB8 : Hid (Below w6.heap.size w6 w8) := HB7.out.trans (hb8.mono HBA.out)
  have HD8 : Hid (Dec w8 ba2 bd2 x0 (mPath x0 (segsOf n1 ty1 z2) (aggOf x3 x4) (fourOf d7 (segsOf n7 ty7 z8))) (mAgg x0 (aggOf x3 x4) (aggOf x5 x6)) (aggOf x5 x6) (fourOf d7 (segsOf n7 ty7 z8))) := hd8
  have HP8 : Hid (Fits 2097152 (mPath x0 (segsOf n1 ty1 z2) (aggOf x3 x4) (fourOf d7 (segsOf n7 ty7 z8)))) := mPath_fits (segs_fits ty1 S.out.1) (four_fits (segs_fits ty7 S.out.2))
  clear hd8 hb8 HD7 HB7
  go_wp2_with fail
  refine (zzmerge_any ba2 bd2 x0 _ _ _ _ w8 HD8.out HP8.out (four_fits (segs_fits ty7 S.out.2))).mono ?_
  rintro e w9 ⟨rfl, hd9, hb9⟩
  rw [mPath_again, mAgg_again] at hd9
  have HB9 : Hid (Below w6.heap.size w6 w9) := HB8.out.trans (hb9.mono HBA.out)
  have HD9 : Hid (Dec w9 ba2 bd2 x0 (mPath x0 (segsOf n1 ty1 z2) (aggOf x3 x4) (fourOf d7 (segsOf n7 ty7 z8))) (mAgg x0 (aggOf x3 x4) (aggOf x5 x6)) (aggOf x5 x6) (fourOf d7 (segsOf n7 ty7 z8))) := hd9
  have HO9 : Hid (Dec w9 ba bd x0 (mPath x0 (segsOf n1 ty1 z2) (aggOf x3 x4) (fourOf d7 (segsOf n7 ty7 z8))) (mAgg x0 (aggOf x3 x4) (aggOf x5 x6)) (aggOf x5 x6) (fourOf d7 (segsOf n7 ty7 z8))) := HD6.out.later HB9.out
  clear hd9 hb9 HD8 HB8 HBA
  go_wp2_with fail
  refine (same_any ba bd ba2 bd2 x0 _ _ _ _ w9 HO9.out HD9.out (by have := HP8.out.1; omega)).mono ?_
  rintro e w10 ⟨rfl, hb10⟩
  have HD10 : Hid (Dec w10 ba bd x0 (mPath x0 (segsOf n1 ty1 z2) (aggOf x3 x4) (fourOf d7 (segsOf n7 ty7 z8))) (mAgg x0 (aggOf x3 x4) (aggOf x5 x6)) (aggOf x5 x6) (fourOf d7 (segsOf n7 ty7 z8))) := HO9.out.later hb10
  have HB610 : Hid (Below w6.heap.size w6 w10) := HB9.out.trans (hb10.mono HB9.out.size)
  have HB10 : Hid (Below w0.heap.size w0 w10) := HB06.out.trans (HB610.out.mono HB06.out.size)
  have U1 : Hid (U8At w10 d1 n1 ty1) := U1.out.later (Nat.le_refl _) HB610.out
  have U2 : Hid (RowsAt w10 d2 n1 z2) := U2.out.later (Nat.le_refl _) HB610.out
  have U7 : Hid (U8At w10 d7 n7 ty7) := U7.out.later (Nat.le_refl _) HB610.out
  have U8 : Hid (RowsAt w10 d8 n7 z8) := U8.out.later (Nat.le_refl _) HB610.out
  clear hb10 HB9 HB610 HO9 HD9 HD6 HB06
  have E1 := plen_segs n1 ty1 z2
  have E7 := plen_segs n7 ty7 z8
  have T1 := plen_top ty1 S.out.1
  have T7 := plen_top ty7 S.out.2
  obtain ⟨p1, hp1⟩ : ∃ p, p = plenL (segsOf n1 ty1 z2) := ⟨_, rfl⟩
  obtain ⟨p7, hp7⟩ : ∃ p, p = plenL (segsOf n7 ty7 z8) := ⟨_, rfl⟩
  rw [← hp1] at E1 T1
  rw [← hp7] at E7 T7
  have HP1 : Hid (p1 = plenL (segsOf n1 ty1 z2)) := hp1
  have HP7 : Hid (p7 = plenL (segsOf n7 ty7 z8)) := hp7
  have C1 : Hid (Calls Trym.prog 20 #[.slice d1 n1 g1, .slice d2 n1 g2] w10 fun e w' => e = .returned (.int .i64 p1) ∧ w' = w10) := by
    have h := b1Counted_any d1 d2 n1 g1 g2 ty1 z2 w10 U1.out U2.out S.out.1
    rw [E1] at h
    exact h
  have C7 : Hid (Calls Trym.prog 20 #[.slice d7 n7 g7, .slice d8 n7 g8] w10 fun e w' => e = .returned (.int .i64 p7) ∧ w' = w10) := by
    have h := b1Counted_any d7 d8 n7 g7 g8 ty7 z8 w10 U7.out U8.out S.out.2
    rw [E7] at h
    exact h
  clear E1 E7 hp1 hp7
  go_wp2_with fail
  refine C1.out.mono ?_
  rintro e w' ⟨rfl, rfl⟩
  rename World => w10
  go_upto_region 19 with fail
  go_cut [22] (fun v wc => v = .bool (stale (aggOf x3 x4)) ∧ wc = w10)
  case first =>
    cases x3
    · go_wp2_with fail
      go_meet
      exact ⟨rfl, rfl⟩
    · have HX : Hid (stale (aggOf true x4) = (x4 != 23456)) := rfl
      cases hx4 : (x4 != 23456)
      · go_wp2_with fail
        go_meet
        exact ⟨by rw [HX.out, hx4], rfl⟩
      · go_wp2_with fail
        go_meet
        exact ⟨by rw [HX.out, hx4], rfl⟩
  case rest =>
  obtain ⟨rfl, rfl⟩ := hcut
  rename World => w10
  obtain ⟨st, hst⟩ : ∃ st, st = stale (aggOf x3 x4) := ⟨_, rfl⟩
  have HST : Hid (st = stale (aggOf x3 x4)) := hst
  rw [← hst]
  clear hst
  have hnil := fun w => Lib.run_eql_slice_nil (P := Trym.prog) w 22 5 d7 n7 g7 0 0 Trym.underlying22
  go_upto_region 20 with fail
  go_cut [124] (fun v wc => v = .bool (x0 || st || d7.isNone || decide (p1 < p7)) ∧ wc = w10)
  case first =>
    cases x0
    · cases st
      · cases d7 with
        | none =>
          go_wp2_with fail
          go_meet
          exact ⟨rfl, rfl⟩
        | some d7 =>
          by_cases hlt : p1 < p7
          · have hlti : (p1 : Int) < (p7 : Int) := by omega
            go_wp2_with fail
            refine C7.out.mono ?_
            rintro e w' ⟨rfl, rfl⟩
            go_wp2_with fail
            go_meet
            exact ⟨by rw [decide_eq_true hlt]; rfl, rfl⟩
          · have hlti : ¬ (p1 : Int) < (p7 : Int) := by omega
            go_wp2_with fail
            refine C7.out.mono ?_
            rintro e w' ⟨rfl, rfl⟩
            go_wp2_with fail
            go_meet
            exact ⟨by rw [decide_eq_false hlt]; rfl, rfl⟩
      · go_wp2_with fail
        go_meet
        exact ⟨rfl, rfl⟩
    · go_wp2_with fail
      go_meet
      exact ⟨rfl, rfl⟩
  case rest =>
  obtain ⟨rfl, rfl⟩ := hcut
  rename World => w10
  obtain ⟨fl, hfl⟩ : ∃ fl, fl = (x0 || st || d7.isNone || decide (p1 < p7)) := ⟨_, rfl⟩
  have HFL : Hid (fl = (x0 || st || d7.isNone || decide (p1 < p7))) := hfl
  rw [← hfl]
  clear hfl hnil
  cases fl
  case true =>
    have EQ := mp_same (P := segsOf n1 ty1 z2) (F := segsOf n7 ty7 z8) (d7 := d7) HST.out HP1.out HP7.out HFL.out.symm
    rw [EQ] at HD10
    clear EQ
    go_wp2_with fail
    refine (pathIs_any ba bd x0 (segsOf n1 ty1 z2) _ _ _ w10 HD10.out d1 d2 n1 g1 g2 ty1 z2 U1.out U2.out (segsOf_length _ _ _) (fun i hi => by rw [tyL, segsOf_getD n1 ty1 z2 hi]) (fun i hi => by rw [zsL, segsOf_getD n1 ty1 z2 hi]) (by omega)).mono ?_
    rintro e w11 ⟨rfl, hb11⟩
    have HB11 : Hid (Below w0.heap.size w0 w11) := HB10.out.trans (hb11.mono HB10.out.size)
    clear hb11
    go_wp2_with fail
    go_ret
    exact ⟨rfl, HB11.out⟩
  obtain ⟨EQ, hpl⟩ := mp_merged (P := segsOf n1 ty1 z2) (F := segsOf n7 ty7 z8) (d7 := d7) HST.out HP1.out HP7.out HFL.out.symm
  have HML : Hid (plenL (mPath x0 (segsOf n1 ty1 z2) (aggOf x3 x4) (fourOf d7 (segsOf n7 ty7 z8))) = p1) := by unfold Hid; rw [EQ, mergeL_len hpl, HP1.out]
  have hnl : (mPath x0 (segsOf n1 ty1 z2) (aggOf x3 x4) (fourOf d7 (segsOf n7 ty7 z8))).length ≤ n1 + n7 := by
    rw [EQ]
    have := merged_length (segsOf n1 ty1 z2) (segsOf n7 ty7 z8)
    rw [segsOf_length, segsOf_length] at this
    exact this
  have HFM : Hid (∃ hd, flatL (mPath x0 (segsOf n1 ty1 z2) (aggOf x3 x4) (fourOf d7 (segsOf n7 ty7 z8))) = (flatTo z2 n1).take hd ++ flatTo z8 n7 ∧ hd ≤ (flatTo z2 n1).length) := by
    unfold Hid
    rw [EQ, flatTo_segs n1 ty1 z2, flatTo_segs n7 ty7 z8]
    exact merged_flat hpl
  clear EQ hpl HFL HST
  obtain ⟨P9, hP9⟩ : ∃ P9, P9 = mPath x0 (segsOf n1 ty1 z2) (aggOf x3 x4) (fourOf d7 (segsOf n7 ty7 z8)) := ⟨_, rfl⟩
  rw [← hP9] at HD10 HP8 HML hnl HFM
  clear hP9
  obtain ⟨ag9, hag9⟩ : ∃ ag9, ag9 = mAgg x0 (aggOf x3 x4) (aggOf x5 x6) := ⟨_, rfl⟩
  rw [← hag9] at HD10
  clear hag9
  go_wp2_with fail
  refine (pathLen_any ba bd x0 P9 ag9 _ _ w10 HD10.out).mono ?_
  rintro e w' ⟨rfl, rfl⟩
  rename World => w10
  have HD0 : Hid (Dec w10 ba bd x0 P9 ag9 (aggOf x5 x6) (fourOf d7 (segsOf n7 ty7 z8))) := HD10.out
  have HD : Hid (∀ W, Below w10.heap.size w10 W → Dec W ba bd x0 P9 ag9 (aggOf x5 x6) (fourOf d7 (segsOf n7 ty7 z8))) := fun W hb => HD10.out.later hb
  have hN : P9.length ≤ 2097152 := HP8.out.1
  have hnli : ¬ ((n1 : Int) + (n7 : Int)) < (P9.length : Int) := by omega
  have HZ : Hid (∀ i, i < P9.length → (zsL P9 i).length ≤ 2097152) := fun i hi => HP8.out.zs hi
  obtain ⟨i34, hi34, hz34, hs34, hb34⟩ := info_parts info34
  clear HD10
  go_upto_block 0 with fail
  go_cut [24, 25] (fun cv gv wc => cv = .int .i64 (p1 : Nat) ∧ ∃ v, v = gv ∧ Own32 wc w10.heap.size v (flatL P9) ∧ Below w10.heap.size w10 wc)
  case first =>
    go_wp2_with fail
    go_loopw [24, 25, 26] (fun cv gv iv wr => ∃ (i c : Nat) (v : Value), i ≤ P9.length ∧ iv = .int .i64 i ∧ cv = .int .i64 c ∧ c = plen (tyL P9) (zsL P9) i ∧ v = gv ∧ Own32 wr w10.heap.size v (flatTo (zsL P9) i) ∧ Below w10.heap.size w10 wr) (fun _ _ i _ => P9.length - (intOf i).toNat)
    case atStart => exact ⟨0, 0, _, Nat.zero_le _, rfl, rfl, rfl, rfl, Own32.nil _ _, Below.refl _ _⟩
    case round =>
      obtain ⟨i, c, v, hi, rfl, rfl, hc, rfl, how, hb⟩ := hrel
      rename World => wo
      have HC : Hid (c = plen (tyL P9) (zsL P9) i) := hc
      have HO : Hid (Own32 wo w10.heap.size v (flatTo (zsL P9) i)) := how
      have HB : Hid (Below w10.heap.size w10 wo) := hb
      have hcb : c ≤ 4398046511104 := by rw [hc]; exact plen_top2 hN HZ.out i hi
      clear hc how hb
      by_cases hlt : i < P9.length
      · have hii : (i : Int) < (P9.length : Int) := by omega
        have hzi := HZ.out i hlt
        go_wp2_with fail
        refine (pathASNs_from _ _ _ _ _ _ _ w10 _ HD0.out HB.out i hlt).mono ?_
        rintro e w' ⟨⟨xo, xc, rfl, hx, hx1, hx2⟩, rfl⟩
        rename World => wo
        have HA : Hid (AsnsF w10 xo (zsL P9 i)) := hx
        clear hx
        unfold maxLen at hx2
        go_wp2_with fail
        refine (pathTyp_any _ _ _ _ _ _ _ _ (HD.out _ HB.out) i hlt).mono ?_
        rintro e w' ⟨rfl, rfl⟩
        rename World => wo
        obtain ⟨c2, hc2⟩ : ∃ c2, c2 = plen (tyL P9) (zsL P9) (i + 1) := ⟨_, rfl⟩
        have HC2 : Hid (c2 = plen (tyL P9) (zsL P9) (i + 1)) := hc2
        have HC3 : Hid (c2 = c + cnt (tyL P9 i) (zsL P9 i)) := by unfold Hid; rw [hc2, HC.out]; rfl
        clear hc2
        go_upto_if 150 with fail
        go_cut [24] from 138 to 171 (fun v wc => v = .int .i64 c2 ∧ wc = wo)
        case first =>
          cases hty : (tyL P9 i == 2)
          · cases hty1 : (tyL P9 i == 1)
            · have HE : Hid (c2 = c) := by unfold Hid; rw [HC3.out]; unfold cnt; rw [hty, hty1]; rfl
              go_wp2_with fail
              go_meet
              exact ⟨by rw [HE.out], rfl⟩
            · have HE : Hid (c2 = c + 1) := by unfold Hid; rw [HC3.out]; unfold cnt; rw [hty, hty1]; rfl
              go_wp2_with fail
              go_meet
              exact ⟨by rw [HE.out]; go_num, rfl⟩
          · have HE : Hid (c2 = c + (zsL P9 i).length) := by unfold Hid; rw [HC3.out]; unfold cnt; rw [hty]; rfl
            go_wp2_with fail
            go_meet
            exact ⟨by rw [HE.out]; go_num, rfl⟩
        case rest =>
        obtain ⟨rfl, rfl⟩ := hcut
        rename World => wo
        have hfl := flat_top hN HZ.out i hi
        go_wp2_with fail
        go_loopw [25, 29] (fun gv jv wr => ∃ (j : Nat) (v : Value), j ≤ (zsL P9 i).length ∧ jv = .int .i64 j ∧ v = gv ∧ Own32 wr w10.heap.size v (flatTo (zsL P9) i ++ (zsL P9 i).take j) ∧ Below w10.heap.size w10 wr) (fun _ j _ => (zsL P9 i).length - (intOf j).toNat)
        case atStart => exact ⟨0, _, Nat.zero_le _, rfl, rfl, by simpa using HO.out, HB.out⟩
        case round =>
          obtain ⟨j, v2, hj, rfl, rfl, how2, hb2⟩ := hrel
          have HO2 : Hid (Own32 wr w10.heap.size v2 (flatTo (zsL P9) i ++ (zsL P9 i).take j)) := how2
          have HB2 : Hid (Below w10.heap.size w10 wr) := hb2
          have hw2 : w10.heap.size ≤ wr.heap.size := hb2.size
          clear how2 hb2
          by_cases hjl : j < (zsL P9 i).length
          · obtain ⟨p, po, rfl, q0⟩ := HA.out.at hjl
            have q1 := (HB2.out.cell (p := ⟨p, po + j, none⟩) (cell_lt q0)).trans q0
            have hji : (j : Int) < ((zsL P9 i).length : Int) := by omega
            have HLL : Hid ((flatTo (zsL P9) i ++ (zsL P9 i).take j).length + 1 ≤ maxLen) := by unfold Hid maxLen; simp; omega
            have HLB : Hid (((flatTo (zsL P9) i ++ (zsL P9 i).take j).length + 1) * 4 ≤ 140737488355328) := by unfold Hid; simp; omega
            have HONE : Hid (∀ a, ∀ u ∈ [Value.int .u32 a], u.oneCell' = true) := by unfold Hid; simp [Value.oneCell']
            clear q0
            go_wp2_with (first | (at_builtin; refine wpList_append_lies _ rfl _ _ 47 rfl w10.heap.size 34 i34 _ 1 4 Trym.underlying47 hi34 hz34 hs34 hb34 (by rfl) (by decide) v2 (flatTo (zsL P9) i ++ (zsL P9 i).take j).length (u32s (flatTo (zsL P9) i ++ (zsL P9 i).take j)) rfl (by exact World.ownsRow.alloc HO2.out _) ⟨wr.heap.size, 0, none⟩ 1 1 [.int .u32 (nth (zsL P9 i) j)] rfl (by rfl) (by exact news32 wr _) (by exact HONE.out _) (by decide) HLL.out HLB.out (by simp; omega) (wr.heap.size + 1) (by simp) ?_; intro g cap w1 hown1 hgrow hat hglt; clear hat hglt; have HO3 : Hid (Own32 w1 w10.heap.size (.slice (some ⟨g, 0, none⟩) ((flatTo (zsL P9) i ++ (zsL P9 i).take j).length + 1) cap) (flatTo (zsL P9) i ++ (zsL P9 i).take (j + 1))) := (by unfold Hid; rw [take_next hjl, ← List.append_assoc]; exact Own32.more hown1); have HB3 : Hid (Below w10.heap.size w10 w1) := (HB2.out.alloc hw2 _).grown hgrow (by simp; omega) HO2.out.row; clear hown1 hgrow) | go_in)
            go_roundw
            case rel => exact ⟨j + 1, _, by omega, by go_num, rfl, (by have h := HO3.out; first | exact h | (rw [show (flatTo (zsL P9) i ++ (zsL P9 i).take j).length = (flatTo (zsL P9) i).length + j by simp; omega] at h; exact h)), HB3.out⟩
            case measure => simp [intOf]; omega
          · obtain rfl : j = (zsL P9 i).length := by omega
            have HO4 : Hid (Own32 wr w10.heap.size v2 (flatTo (zsL P9) (i + 1))) := by
              have := HO2.out
              rw [List.take_length] at this
              exact this
            go_wp2_with fail
            go_roundw
            case rel => exact ⟨i + 1, c2, _, by omega, by go_num, rfl, HC2.out, rfl, HO4.out, HB2.out⟩
            case measure => simp [intOf]; omega
      · obtain rfl : i = P9.length := by omega
        have HG : Hid (Own32 wo w10.heap.size v (flatL P9)) := by
          have h := HO.out
          rw [flatTo_all] at h
          exact h
        have HCE : Hid (c = p1) := by unfold Hid; rw [HC.out, plen_all, HML.out]
        go_wp2_with fail
        go_meet
        exact ⟨by rw [HCE.out], _, rfl, HG.out, HB.out⟩
  case rest =>
  obtain ⟨rfl, gv, rfl, hown, hb11⟩ := hcut
  rename World => w11
  obtain ⟨hd, hfe, hhd⟩ := HFM.out
  have hAt := flat_top (n := n1) (zs := z2) (by omega) (fun i hi => by have := S.out.1.2 i hi; omega) n1 (Nat.le_refl _)
  have hBt := flat_top (n := n7) (zs := z8) (by omega) (fun i hi => by have := S.out.2.2 i hi; omega) n7 (Nat.le_refl _)
  obtain ⟨A, hA⟩ : ∃ A, A = flatTo z2 n1 := ⟨_, rfl⟩
  obtain ⟨B, hB⟩ : ∃ B, B = flatTo z8 n7 := ⟨_, rfl⟩
  obtain ⟨G, hG⟩ : ∃ G, G = flatL P9 := ⟨_, rfl⟩
  rw [← hG] at hfe hown
  rw [← hA] at hfe hhd hAt
  rw [← hB] at hfe hBt
  have HE : Hid (G = A.take hd ++ B) := hfe
  have hGl : G.length = hd + B.length := by rw [hfe, List.length_append, List.length_take]; omega
  have hgt : ¬ (G.length : Int) < (B.length : Int) := by omega
  have hsub : (G.length : Int) - (B.length : Int) = (hd : Int) := by omega
  have hhdi : ¬ (A.length : Int) < (hd : Int) := by omega
  have HGL : Hid (G.length = hd + B.length) := hGl
  obtain ⟨gb, gc, rfl, hgin, hg1, hg2⟩ := hown.form
  unfold maxLen at hg2
  have HGI : Hid (AsnsF w11 gb G) := hgin.plain
  have HB11 : Hid (Below w10.heap.size w10 w11) := hb11
  have HB011 : Hid (Below w0.heap.size w0 w11) := HB10.out.trans (hb11.mono HB10.out.size)
  have CA : Hid (Calls Trym.prog 29 #[.slice d2 n1 g2] w11 fun e w' => RetFlat e w' w11.heap.size A ∧ Below w11.heap.size w11 w') := by
    unfold Hid
    rw [hA]
    exact flat_any d2 n1 g2 z2 w11 (U2.out.later (Nat.le_refl _) hb11) S.out.1
  have CB : Hid (∀ w, Below w11.heap.size w11 w → Calls Trym.prog 29 #[.slice d8 n7 g8] w fun e w' => RetFlat e w' w.heap.size B ∧ Below w.heap.size w w') := by
    unfold Hid
    intro w hw
    rw [hB]
    exact flat_any d8 n7 g8 z8 w ((U8.out.later (Nat.le_refl _) hb11).later (Nat.le_refl _) hw) S.out.2
  clear hA hB hG hfe hown hgin hb11 hGl
  go_wp2_with fail
  refine CA.out.mono ?_
  rintro e w12 ⟨⟨pb, pc, rfl, hpin, hpc1, hpc2⟩, hb12⟩
  have HPI : Hid (AsnsF w12 pb A) := hpin.plain
  have HB12 : Hid (Below w11.heap.size w11 w12) := hb12
  unfold maxLen at hpc2
  clear hpin hb12
  go_wp2_with fail
  refine (CB.out _ HB12.out).mono ?_
  rintro e w13 ⟨⟨qb, qc, rfl, hqin, hqc1, hqc2⟩, hb13⟩
  have HQI : Hid (AsnsF w13 qb B) := hqin.plain
  have HPI : Hid (AsnsF w13 pb A) := HPI.out.later (Nat.le_refl _) hb13
  have HB13 : Hid (Below w11.heap.size w11 w13) := HB12.out.trans (hb13.mono HB12.out.size)
  have HGI : Hid (AsnsF w13 gb G) := HGI.out.later (Nat.le_refl _) HB13.out
  have HB013 : Hid (Below w0.heap.size w0 w13) := HB011.out.trans (HB13.out.mono HB011.out.size)
  unfold maxLen at hqc2
  clear hqin hb13 CA CB
  go_wp2_with fail
  go_loopw [33] (fun kv wr => ∃ k : Nat, k ≤ hd ∧ kv = .int .i64 k ∧ Below w13.heap.size w13 wr) (fun i _ => hd - (intOf i).toNat)
  case atStart => exact ⟨0, Nat.zero_le _, rfl, Below.refl _ _⟩
  case round =>
    obtain ⟨k, hk, rfl, hb⟩ := hrel
    rename World => wo
    have HB : Hid (Below w13.heap.size w13 wo) := hb
    clear hb
    by_cases hkl : k < hd
    · obtain ⟨p, po, rfl, q0⟩ := HGI.out.at (j := k) (by have := HGL.out; omega)
      obtain ⟨p2, po2, rfl, r0⟩ := HPI.out.at (j := k) (by omega)
      rw [nth_left HE.out hhd hkl] at q0
      have q1 := (HB.out.cell (p := ⟨p, po + k, none⟩) (cell_lt q0)).trans q0
      have r1 := (HB.out.cell (p := ⟨p2, po2 + k, none⟩) (cell_lt r0)).trans r0
      have hki : (k : Int) < (hd : Int) := by omega
      have hkG : k < G.length := by have := HGL.out; omega
      clear q0 r0
      go_upto_region 52 with fail
      go_quiet (fail)
      go_wp2_with fail
      go_roundw
      case rel => exact ⟨k + 1, by omega, by go_num, bel_drewN HB.out _⟩
      case measure => simp [intOf]; omega
    · obtain rfl : k = hd := by omega
      go_wp2_with fail
      go_loopw [34] (fun kv wr => ∃ j : Nat, j ≤ B.length ∧ kv = .int .i64 j ∧ Below w13.heap.size w13 wr) (fun i _ => B.length - (intOf i).toNat)
      case atStart => exact ⟨0, Nat.zero_le _, rfl, HB.out⟩
      case round =>
        obtain ⟨j, hj, rfl, hb⟩ := hrel
        have HBJ : Hid (Below w13.heap.size w13 wr) := hb
        clear hb
        by_cases hjl : j < B.length
        · obtain ⟨p, po, rfl, q0⟩ := HGI.out.at (j := k + j) (by have := HGL.out; omega)
          obtain ⟨p2, po2, rfl, r0⟩ := HQI.out.at hjl
          rw [nth_right HE.out hhd] at q0
          have q1 := (HBJ.out.cell (p := ⟨p, po + (k + j), none⟩) (cell_lt q0)).trans q0
          have r1 := (HBJ.out.cell (p := ⟨p2, po2 + j, none⟩) (cell_lt r0)).trans r0
          have hji : (j : Int) < (B.length : Int) := by omega
          have hkG : k + j < G.length := by have := HGL.out; omega
          clear q0 r0
          go_upto_region 57 with fail
          go_quiet (fail)
          go_wp2_with fail
          go_roundw
          case rel => exact ⟨j + 1, by omega, by go_num, bel_drewN HBJ.out _⟩
          case measure => simp [intOf]; omega
        · obtain rfl : j = B.length := by omega
          go_wp2_with fail
          go_ret
          exact ⟨rfl, HB013.out.trans (HBJ.out.mono HB013.out.size)⟩
end Go.Proofs.Qxb6614704aMods
