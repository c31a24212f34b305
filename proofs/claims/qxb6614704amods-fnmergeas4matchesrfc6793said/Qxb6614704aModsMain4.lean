/-
  The first law's own function.
-/
import Derived.Test.Qxb6614704aModsTold
import Derived.Test.Qxb6614704aModsModel
import Derived.Test.Qxb6614704aModsIs
namespace Go.Proofs.Qxb6614704aMods
open Go.RowKit

set_option maxRecDepth 100000 in
set_option maxHeartbeats 3200000 in
theorem main4 (x0 x3 x5 : Bool) (x4 x6 : Int) (a1 a2 a7 a8 : Option Addr) (n1 n2 n7 n8 c1 c2 c7 c8 : Nat) (ty1 ty7 : Nat → Int) (z2 z8 : Nat → List Int) (w : World)
    (h1 : U8At w a1 n1 ty1) (h2 : RowsAt w a2 n2 z2) (h7 : U8At w a7 n7 ty7) (h8 : RowsAt w a8 n8 z8) (b1 : n1 ≤ maxLen) (b2 : n2 ≤ maxLen) (b7 : n7 ≤ maxLen) (b8 : n8 ≤ maxLen)
    (k1 : a1 = none → n1 = 0 ∧ c1 = 0) (k2 : a2 = none → n2 = 0 ∧ c2 = 0) (k7 : a7 = none → n7 = 0 ∧ c7 = 0) (k8 : a8 = none → n8 = 0 ∧ c8 = 0) :
    Calls Trym.prog 4 #[.bool x0, .slice a1 n1 c1, .slice a2 n2 c2, .bool x3, .int .u32 x4, .bool x5, .int .u32 x6, .slice a7 n7 c7, .slice a8 n8 c8] w fun e w' => e = .returned (.bool true) ∧ Below w.heap.size w w' := by
  have H1 : Hid (U8At w a1 n1 ty1) := h1
  have H2 : Hid (RowsAt w a2 n2 z2) := h2
  have H7 : Hid (U8At w a7 n7 ty7) := h7
  have H8 : Hid (RowsAt w a8 n8 z8) := h8
  have K1 : Hid (a1 = none → n1 = 0 ∧ c1 = 0) := k1
  have K2 : Hid (a2 = none → n2 = 0 ∧ c2 = 0) := k2
  have K7 : Hid (a7 = none → n7 = 0 ∧ c7 = 0) := k7
  have K8 : Hid (a8 = none → n8 = 0 ∧ c8 = 0) := k8
  have B : Hid (n1 ≤ maxLen ∧ n2 ≤ maxLen ∧ n7 ≤ maxLen ∧ n8 ≤ maxLen) := ⟨b1, b2, b7, b8⟩
  clear h1 h2 h7 h8 k1 k2 k7 k8 b1 b2 b7 b8
  go_enter Trym.func4, Trym.ntmps4
  go_wp2_with fail
  refine (zzBytes14_any x0 x3 x5 x4 x6 a1 a2 a7 a8 n1 n2 n7 n8 c1 c2 c7 c8 z2 z8 w H2.out H8.out B.out.1 B.out.2.1 B.out.2.2.1 B.out.2.2.2).mono ?_
  rintro e w' ⟨⟨t, rfl, ht⟩, rfl⟩
  rename World => w0
  cases t
  · go_wp2_with fail
    go_ret
    exact ⟨rfl, Below.refl _ _⟩
  obtain ⟨b1, b2, b7, b8⟩ := ht rfl
  clear ht
  go_wp2_with fail
  refine (b1MergeBytes_any a1 a2 a7 a8 n1 n2 n7 n8 c1 c2 c7 c8 z2 z8 w0 H2.out H8.out b1 b2 b7 b8).mono ?_
  rintro e w' ⟨⟨k, rfl, hk⟩, rfl⟩
  rename World => w0
  by_cases hkb : 1048576 < k
  · go_wp2_with fail
    go_ret
    exact ⟨rfl, Below.refl _ _⟩
  have S : Hid (Small n2 z2 ∧ Small n8 z8) := hk (by omega)
  clear hk
  by_cases e12 : n1 = n2
  case neg =>
    have e12i : ¬ (n1 : Int) = (n2 : Int) := by omega
    go_wp2_with fail
    go_ret
    exact ⟨rfl, Below.refl _ _⟩
  subst e12
  by_cases e78 : n7 = n8
  case neg =>
    have e78i : ¬ (n7 : Int) = (n8 : Int) := by omega
    go_wp2_with fail
    go_ret
    exact ⟨rfl, Below.refl _ _⟩
  subst e78
  go_wp2_with fail
  refine (b1CloneU8_any a1 n1 c1 ty1 w0 H1.out b1 K1.out).mono ?_
  rintro e w1 ⟨⟨d1, g1, rfl, hu1, _⟩, hb1⟩
  have HB1 : Hid (Below w0.heap.size w0 w1) := hb1
  have U1 : Hid (U8At w1 d1 n1 ty1) := hu1
  clear hu1 hb1
  go_wp2_with fail
  refine (b1CloneU32s_any a2 n1 c2 z2 w1 (H2.out.later (Nat.le_refl _) HB1.out) S.out.1 K2.out).mono ?_
  rintro e w2 ⟨⟨d2, g2, rfl, hu2⟩, hb2⟩
  have HB2 : Hid (Below w0.heap.size w0 w2) := HB1.out.trans (hb2.mono HB1.out.size)
  have U1 : Hid (U8At w2 d1 n1 ty1) := U1.out.later (Nat.le_refl _) hb2
  have U2 : Hid (RowsAt w2 d2 n1 z2) := hu2
  clear hu2 hb2
  go_wp2_with fail
  refine (b1CloneU8_any a7 n7 c7 ty7 w2 (H7.out.later (Nat.le_refl _) HB2.out) b7 K7.out).mono ?_
  rintro e w3 ⟨⟨d7, g7, rfl, hu7, _⟩, hb3⟩
  have HB3 : Hid (Below w0.heap.size w0 w3) := HB2.out.trans (hb3.mono HB2.out.size)
  have U1 : Hid (U8At w3 d1 n1 ty1) := U1.out.later (Nat.le_refl _) hb3
  have U2 : Hid (RowsAt w3 d2 n1 z2) := U2.out.later (Nat.le_refl _) hb3
  have U7 : Hid (U8At w3 d7 n7 ty7) := hu7
  clear hu7 hb3
  go_wp2_with fail
  refine (b1CloneU32s_any a8 n7 c8 z8 w3 (H8.out.later (Nat.le_refl _) HB3.out) S.out.2 K8.out).mono ?_
  rintro e w4 ⟨⟨d8, g8, rfl, hu8⟩, hb4⟩
  have HB4 : Hid (Below w0.heap.size w0 w4) := HB3.out.trans (hb4.mono HB3.out.size)
  have U1 : Hid (U8At w4 d1 n1 ty1) := U1.out.later (Nat.le_refl _) hb4
  have U2 : Hid (RowsAt w4 d2 n1 z2) := U2.out.later (Nat.le_refl _) hb4
  have U7 : Hid (U8At w4 d7 n7 ty7) := U7.out.later (Nat.le_refl _) hb4
  have U8 : Hid (RowsAt w4 d8 n7 z8) := hu8
  clear hu8 hb4
  go_wp2_with fail
  refine (new_any x0 x3 x5 x4 x6 d1 d2 d7 d8 n1 n7 g1 g2 g7 g8 ty1 ty7 z2 z8 w4 U1.out U2.out U7.out U8.out S.out.1 S.out.2).mono ?_
  rintro e w5 ⟨⟨ba, bd, rfl, hba, hdec⟩, hb5⟩
  have HBA : Hid (w4.heap.size ≤ ba) := hba
  have HB5 : Hid (Below w4.heap.size w4 w5) := hb5
  have HD5 : Hid (Dec w5 ba bd x0 (segsOf n1 ty1 z2) (aggOf x3 x4) (aggOf x5 x6) (fourOf d7 (segsOf n7 ty7 z8))) := hdec
  clear hba hb5 hdec
  go_wp2_with fail
  refine (zzmerge_any ba bd x0 _ _ _ _ w5 HD5.out ((segs_fits ty1 S.out.1).up (by omega)) (four_fits (segs_fits ty7 S.out.2))).mono ?_
  rintro e w6 ⟨rfl, hd6, hb6⟩
  have HB6 : Hid (Below w4.heap.size w4 w6) := HB5.out.trans (hb6.mono HBA.out)
  have HB06 : Hid (Below w0.heap.size w0 w6) := HB4.out.trans (HB6.out.mono HB4.out.size)
  have U1 : Hid (U8At w6 d1 n1 ty1) := U1.out.later (Nat.le_refl _) HB6.out
  have U2 : Hid (RowsAt w6 d2 n1 z2) := U2.out.later (Nat.le_refl _) HB6.out
  have U7 : Hid (U8At w6 d7 n7 ty7) := U7.out.later (Nat.le_refl _) HB6.out
  have U8 : Hid (RowsAt w6 d8 n7 z8) := U8.out.later (Nat.le_refl _) HB6.out
  have HD6 : Hid (Dec w6 ba bd x0 (mPath x0 (segsOf n1 ty1 z2) (aggOf x3 x4) (fourOf d7 (segsOf n7 ty7 z8))) (mAgg x0 (aggOf x3 x4) (aggOf x5 x6)) (aggOf x5 x6) (fourOf d7 (segsOf n7 ty7 z8))) := hd6
  clear hd6 hb6 HD5 HB5 HBA HB4 HB6 HB1 HB2 HB3 H1 H2 H7 H8 K1 K2 K7 K8 B
  go_upto_region 17 with fail
  go_cut [24] (fun v wc => v = .bool (stale (aggOf x3 x4)) ∧ wc = w6)
  case first =>
    cases x3
    · go_wp2_with fail
      go_meet
      exact ⟨rfl, rfl⟩
    · have HX : Hid (stale (aggOf true x4) = (x4 != 23456)) := rfl
      cases hx4 : (x4 != 23456)
      · go_wp2_with fail
        go_meet
        exact ⟨by rw [HX.out, hx4], rfl⟩
      · go_wp2_with fail
        go_meet
        exact ⟨by rw [HX.out, hx4], rfl⟩
  case rest =>
  obtain ⟨rfl, rfl⟩ := hcut
  rename World => w6
  go_upto_region 18 with fail
  obtain ⟨st, hst⟩ : ∃ st, st = stale (aggOf x3 x4) := ⟨_, rfl⟩
  have HST : Hid (st = stale (aggOf x3 x4)) := hst
  rw [← hst]
  clear hst
  go_cut [90] (fun v wc => v = .bool (!(x0 || st)) ∧ wc = w6)
  case first =>
    cases x0
    · cases st
      · go_wp2_with fail
        go_meet
        exact ⟨rfl, rfl⟩
      · go_wp2_with fail
        go_meet
        exact ⟨rfl, rfl⟩
    · go_wp2_with fail
      go_meet
      exact ⟨rfl, rfl⟩
  case rest =>
  obtain ⟨rfl, rfl⟩ := hcut
  rename World => w6
  obtain ⟨sk, hsk⟩ : ∃ sk, sk = (x0 || st) := ⟨_, rfl⟩
  have HMPt : Hid (sk = true → ∀ P F, mPath x0 P (aggOf x3 x4) F = P) := by intro h P F; unfold mPath; rw [← HST.out, ← hsk, h]; rfl
  have HMPf : Hid (sk = false → ∀ P F, mPath x0 P (aggOf x3 x4) F = fPath P F) := by intro h P F; unfold mPath; rw [← HST.out, ← hsk, h]; rfl
  have HMAt : Hid (sk = true → ∀ g4, mAgg x0 (aggOf x3 x4) g4 = aggOf x3 x4) := by intro h g4; unfold mAgg; rw [← HST.out, ← hsk, h]; rfl
  have HMAf : Hid (sk = false → ∀ g4, mAgg x0 (aggOf x3 x4) g4 = fAgg (aggOf x3 x4) g4) := by intro h g4; unfold mAgg; rw [← HST.out, ← hsk, h]; rfl
  rw [← hsk]
  clear hsk HST
  go_upto_if 90 with fail
  go_cut [20, 21, 22, 23] (fun tv av bv zv wc => (∃ t a, t = tv ∧ a = av ∧ Told wc (mPath x0 (segsOf n1 ty1 z2) (aggOf x3 x4) (fourOf d7 (segsOf n7 ty7 z8))) t a) ∧ (∃ b z, b = bv ∧ z = zv ∧ ToldA (mAgg x0 (aggOf x3 x4) (aggOf x5 x6)) b z) ∧ Below w6.heap.size w6 wc)
  case first =>
    cases sk
    case true =>
      go_wp2_with fail
      go_meet
      refine ⟨⟨_, _, rfl, rfl, ?_⟩, ⟨_, _, rfl, rfl, ?_⟩, Below.refl _ _⟩
      · rw [HMPt.out (by trivial)]; exact told_segs U1.out U2.out
      · rw [HMAt.out (by trivial)]; exact toldA_of _ _
    go_upto_if 91 with fail
    go_cut [22, 23] (fun bv zv wc => (∃ b z, b = bv ∧ z = zv ∧ ToldA (fAgg (aggOf x3 x4) (aggOf x5 x6)) b z) ∧ wc = w6)
    case first =>
      cases x5
      · go_wp2_with fail
        go_meet
        exact ⟨⟨_, _, rfl, rfl, toldA_of _ _⟩, rfl⟩
      · go_wp2_with fail
        go_meet
        exact ⟨⟨_, _, rfl, rfl, toldA_of true _⟩, rfl⟩
    case rest =>
    obtain ⟨⟨b, z, rfl, rfl, hA⟩, rfl⟩ := hcut
    rename World => w6
    have HA : Hid (ToldA (mAgg x0 (aggOf x3 x4) (aggOf x5 x6)) b z) := by unfold Hid; rw [HMAf.out (by trivial)]; exact hA
    clear hA
    have hnil := fun w => Lib.run_eql_slice_nil (P := Trym.prog) w 22 5 d7 n7 g7 0 0 Trym.underlying22
    cases d7 with
    | none =>
      go_wp2_with fail
      go_meet
      refine ⟨⟨_, _, rfl, rfl, ?_⟩, ⟨_, _, rfl, rfl, HA.out⟩, Below.refl _ _⟩
      rw [HMPf.out (by trivial)]; exact told_segs U1.out U2.out
    | some d7 =>
      have E1 := plen_segs n1 ty1 z2
      have E7 := plen_segs n7 ty7 z8
      have T1 := plen_top ty1 S.out.1
      have T7 := plen_top ty7 S.out.2
      have HF : Hid (mPath x0 (segsOf n1 ty1 z2) (aggOf x3 x4) (fourOf (some d7) (segsOf n7 ty7 z8)) = mergeL (segsOf n1 ty1 z2) (segsOf n7 ty7 z8)) := by unfold Hid; rw [HMPf.out (by trivial)]; rfl
      obtain ⟨p1, hp1⟩ : ∃ p, p = plenL (segsOf n1 ty1 z2) := ⟨_, rfl⟩
      obtain ⟨p7, hp7⟩ : ∃ p, p = plenL (segsOf n7 ty7 z8) := ⟨_, rfl⟩
      rw [← hp1] at E1 T1
      rw [← hp7] at E7 T7
      have HP1 : Hid (p1 = plenL (segsOf n1 ty1 z2)) := hp1
      have HP7 : Hid (p7 = plenL (segsOf n7 ty7 z8)) := hp7
      have C1 : Hid (Calls Trym.prog 20 #[.slice d1 n1 g1, .slice d2 n1 g2] w6 fun e w' => e = .returned (.int .i64 p1) ∧ w' = w6) := by
        have h := b1Counted_any d1 d2 n1 g1 g2 ty1 z2 w6 U1.out U2.out S.out.1
        rw [E1] at h
        exact h
      have C7 : Hid (Calls Trym.prog 20 #[.slice (some d7) n7 g7, .slice d8 n7 g8] w6 fun e w' => e = .returned (.int .i64 p7) ∧ w' = w6) := by
        have h := b1Counted_any (some d7) d8 n7 g7 g8 ty7 z8 w6 U7.out U8.out S.out.2
        rw [E7] at h
        exact h
      clear E1 E7 hp1 hp7
      go_wp2_with fail
      refine C1.out.mono ?_
      rintro e w' ⟨rfl, rfl⟩
      rename World => w6
      go_wp2_with fail
      refine C7.out.mono ?_
      rintro e w' ⟨rfl, rfl⟩
      rename World => w6
      by_cases hle : p7 ≤ p1
      · have hlei : (p7 : Int) ≤ (p1 : Int) := by omega
        have hsub : (p1 : Int) - (p7 : Int) = ((p1 - p7 : Nat) : Int) := by omega
        obtain ⟨kp, hkp⟩ : ∃ kp, kp = p1 - p7 := ⟨_, rfl⟩
        rw [← hkp] at hsub
        have HKP : Hid (kp = p1 - p7) := hkp
        have HM : Hid (joinL (modC kp 0 (segsOf n1 ty1 z2)) (segsOf n7 ty7 z8) = mergeL (segsOf n1 ty1 z2) (segsOf n7 ty7 z8)) := by
          unfold Hid
          rw [hkp, HP1.out, HP7.out]
          exact mod_merge (by rw [← HP1.out, ← HP7.out]; exact hle)
        have hkb2 : kp ≤ 1099511627776 := by omega
        clear hkp
        go_wp2_with fail
        refine (model_any d1 d2 (some d7) d8 n1 n7 g1 g2 g7 g8 kp ty1 ty7 z2 z8 w6 U1.out U2.out S.out.1 U7.out U8.out S.out.2 hkb2).mono ?_
        rintro e w7 ⟨⟨t, a, R, rfl, hR, htwo⟩, hb7⟩
        have HTL : Hid (Told w7 (mPath x0 (segsOf n1 ty1 z2) (aggOf x3 x4) (fourOf (some d7) (segsOf n7 ty7 z8))) t a) := by
          unfold Hid
          rw [HF.out, ← HM.out, ← hR]
          exact htwo.told
        have HB7 : Hid (Below w6.heap.size w6 w7) := hb7
        clear hR htwo hb7
        go_wp2_with fail
        go_meet
        exact ⟨⟨_, _, rfl, rfl, HTL.out⟩, ⟨_, _, rfl, rfl, HA.out⟩, HB7.out⟩
      · have hlei : ¬ (p7 : Int) ≤ (p1 : Int) := by omega
        go_wp2_with fail
        go_meet
        refine ⟨⟨_, _, rfl, rfl, ?_⟩, ⟨_, _, rfl, rfl, HA.out⟩, Below.refl _ _⟩
        rw [HF.out]
        unfold mergeL
        rw [if_neg (by rw [← HP1.out, ← HP7.out]; exact hle)]
        exact told_segs U1.out U2.out
  case rest =>
  obtain ⟨⟨t, a, rfl, rfl, htold⟩, ⟨b, z, rfl, rfl, rfl, y, rfl, hy⟩, hb7⟩ := hcut
  rename World => w7
  obtain ⟨f1, l1, f2, l2, rfl, rfl, hf1, hf2⟩ := htold
  have HD7 : Hid (Dec w7 ba bd x0 (mPath x0 (segsOf n1 ty1 z2) (aggOf x3 x4) (fourOf d7 (segsOf n7 ty7 z8))) (mAgg x0 (aggOf x3 x4) (aggOf x5 x6)) (aggOf x5 x6) (fourOf d7 (segsOf n7 ty7 z8))) := HD6.out.later hb7
  have HB7 : Hid (Below w0.heap.size w0 w7) := HB06.out.trans (hb7.mono HB06.out.size)
  have HP7 : Hid (Fits (2097152 + 1048576) (mPath x0 (segsOf n1 ty1 z2) (aggOf x3 x4) (fourOf d7 (segsOf n7 ty7 z8)))) := mPath_fits ((segs_fits ty1 S.out.1).up (by omega)) (four_fits (segs_fits ty7 S.out.2))
  obtain ⟨P7, hP7⟩ : ∃ P7, P7 = mPath x0 (segsOf n1 ty1 z2) (aggOf x3 x4) (fourOf d7 (segsOf n7 ty7 z8)) := ⟨_, rfl⟩
  obtain ⟨ag7, hag7⟩ : ∃ ag7, ag7 = mAgg x0 (aggOf x3 x4) (aggOf x5 x6) := ⟨_, rfl⟩
  rw [← hP7] at hf1 hf2 HD7 HP7 ⊢
  rw [← hag7] at HD7 hy ⊢
  have F1 : Hid (U8At w7 f1 P7.length (tyL P7)) := hf1
  have F2 : Hid (RowsAt w7 f2 P7.length (zsL P7)) := hf2
  have HY : Hid (∀ x, ag7 = some x → x = y) := hy
  clear hf1 hf2 hb7 hP7 hag7 HD6 hy HMPt HMPf HMAt HMAf
  go_wp2_with fail
  refine (pathIs_any ba bd x0 P7 ag7 _ _ w7 HD7.out f1 f2 P7.length l1 l2 (tyL P7) (zsL P7) F1.out F2.out rfl (fun i _ => rfl) (fun i _ => rfl) (by have := HP7.out.1; omega)).mono ?_
  rintro e w8 ⟨rfl, hb8⟩
  have HD8 : Hid (Dec w8 ba bd x0 P7 ag7 (aggOf x5 x6) (fourOf d7 (segsOf n7 ty7 z8))) := HD7.out.later hb8
  have HB8 : Hid (Below w0.heap.size w0 w8) := HB7.out.trans (hb8.mono HB7.out.size)
  clear hb8
  go_wp2_with fail
  refine (aggrIs_any ba bd x0 P7 ag7 _ _ w8 HD8.out y HY.out).mono ?_
  rintro e w9 ⟨rfl, rfl⟩
  go_wp2_with fail
  go_ret
  exact ⟨rfl, HB8.out⟩
end Go.Proofs.Qxb6614704aMods
