/-
  b1MergeModel.
-/
import Derived.Test.Qxb6614704aModsModl
import Derived.Deep.CutBlock
namespace Go.Proofs.Qxb6614704aMods
open Go.RowKit

set_option maxRecDepth 100000 in
set_option maxHeartbeats 12800000 in
theorem model_any (a1 a2 a3 a4 : Option Addr) (n m c1 c2 c3 c4 keep : Nat) (ty ty' : Nat → Int) (zs zs' : Nat → List Int) (w0 : World) (h1 : U8At w0 a1 n ty) (h2 : RowsAt w0 a2 n zs) (hs : Small n zs) (h3 : U8At w0 a3 m ty') (h4 : RowsAt w0 a4 m zs') (hs' : Small m zs') (hkeep : keep ≤ 1099511627776) :
    Calls Trym.prog 21 #[.slice a1 n c1, .slice a2 n c2, .slice a3 m c3, .slice a4 m c4, .int .i64 keep] w0 fun e w' => RetTwo e w0 w' (joinL (modC keep 0 (segsOf n ty zs)) (segsOf m ty' zs')) ∧ Below w0.heap.size w0 w' := by
  obtain ⟨i5, hi5, hz5, hs5, hb5⟩ := info_parts info5
  obtain ⟨i47, hi47, hz47, hs47, hb47⟩ := info_parts info47
  obtain ⟨i34, hi34, hz34, hs34, hb34⟩ := info_parts info34
  have hn := hs.1
  have hm := hs'.1
  have HS : Hid (Small n zs) := hs
  have HS' : Hid (Small m zs') := hs'
  have H1 : Hid (U8At w0 a1 n ty) := h1
  have H2 : Hid (RowsAt w0 a2 n zs) := h2
  have H3 : Hid (U8At w0 a3 m ty') := h3
  have H4 : Hid (RowsAt w0 a4 m zs') := h4
  clear hs hs' h1 h2 h3 h4
  go_enter Trym.func21, Trym.ntmps21
  go_upto_block 0 with fail
  go_cut [12, 13] (fun tv av wc => ∃ R t a, t = tv ∧ a = av ∧ R.map segOf = modC keep 0 (segsOf n ty zs) ∧ R.length ≤ n ∧ Two w0 wc t a R R)
  case first =>
    go_wp2_with fail
    go_loopw [12, 13, 14, 15] (fun tv av ahv iv wr => ∃ (i ah : Nat) (R : List Ent) (t a : Value), i ≤ n ∧ iv = .int .i64 i ∧ ahv = .int .i64 ah ∧ ah = plen ty zs i ∧ modC keep 0 (segsOf n ty zs) = R.map segOf ++ modC keep ah ((segsOf n ty zs).drop i) ∧ R.length ≤ i ∧ t = tv ∧ a = av ∧ Two w0 wr t a R R) (fun _ _ _ i _ => n - (intOf i).toNat)
    case atStart => exact ⟨0, 0, [], _, _, Nat.zero_le _, rfl, rfl, rfl, by simp, Nat.le_refl _, rfl, rfl, Two.start _⟩
    case round =>
      obtain ⟨i, ah, R, t, a, hi, rfl, rfl, hah, hk, hR, rfl, rfl, htwo⟩ := hrel
      have HAH : Hid (ah = plen ty zs i) := hah
      have hab : ah ≤ 1099511627776 := by
        have h1 := plen_le (ty := ty) HS.out.2 i hi
        have h2 : i * 1048576 ≤ 1048576 * 1048576 := Nat.mul_le_mul_right _ (by omega)
        rw [hah]
        exact Nat.le_trans h1 h2
      clear hah
      have HK : Hid (modC keep 0 (segsOf n ty zs) = R.map segOf ++ modC keep ah ((segsOf n ty zs).drop i)) := hk
      have HT : Hid (Two w0 wr t a R R) := htwo
      have HB : Hid (Below w0.heap.size w0 wr) := htwo.below
      have hsz : w0.heap.size ≤ wr.heap.size := htwo.below.size
      clear hk htwo
      by_cases hlt : i < n
      · obtain ⟨b, off, rfl, d0⟩ := H1.out.at hlt
        obtain ⟨b2, off2, xo, xc, rfl, e0, e2, e3, ha, hx⟩ := H2.out.at hlt
        have HA : Hid (AsnsF w0 xo (zs i)) := ha
        have HX : Hid (xo = none → xc = 0) := hx
        have d1 := (HB.out.cell (p := ⟨b, off + i, none⟩) (cell_lt d0)).trans d0
        have e1 := (HB.out.cell (p := ⟨b2, off2 + i, none⟩) (cell_lt e0)).trans e0
        have hdb : b < w0.heap.size := cell_lt d0
        have heb : b2 < w0.heap.size := cell_lt e0
        have hli := HS.out.2 i hlt
        have hii : (i : Int) < (n : Int) := by omega
        have D0 : Hid (w0.cell? ⟨b, off + i, none⟩ = some (.int .u8 (ty i))) := d0
        have E0 : Hid (w0.cell? ⟨b2, off2 + i, none⟩ = some (.slice xo (zs i).length xc)) := e0
        clear ha hx d0 e0
        unfold maxLen at e3
        by_cases hak : ah < keep
        · have haki : (ah : Int) < (keep : Int) := by omega
          go_upto_region 9 with fail
          go_cut [47] from 22 to 86 (fun v wc => v = .bool (decide (ty i = 2 ∧ keep - ah < (zs i).length)) ∧ wc = wr)
          case first =>
            cases hty : (ty i == 2)
            · go_wp2_with fail
              go_meet
              exact ⟨by rw [decide_eq_false (fun h => by rw [h.1] at hty; cases hty)], rfl⟩
            · have hty2 : ty i = 2 := by simpa using hty
              by_cases hsl : keep - ah < (zs i).length
              · have hsli : (keep : Int) - (ah : Int) < ((zs i).length : Int) := by omega
                have HTY : Hid (ty i = 2) := hty2
                clear hty2
                go_wp2_with fail
                go_meet
                exact ⟨by rw [decide_eq_true ⟨HTY.out, hsl⟩], rfl⟩
              · have hsli : ¬ (keep : Int) - (ah : Int) < ((zs i).length : Int) := by omega
                clear hty2
                go_wp2_with fail
                go_meet
                exact ⟨by rw [decide_eq_false (fun h => hsl h.2)], rfl⟩
          case rest =>
          obtain ⟨rfl, rfl⟩ := hcut
          rename World => wr
          go_upto_if 47 with fail
          go_cut [16] from 22 to 86 (fun v wc => v = .int .i64 (tkOf keep ah (ty i) (zs i) : Nat) ∧ wc = wr)
          case first =>
            by_cases htk : ty i = 2 ∧ keep - ah < (zs i).length
            · have HTK : Hid (tkOf keep ah (ty i) (zs i) = keep - ah) := by unfold Hid tkOf; rw [if_pos htk]
              go_wp2_with fail
              go_meet
              exact ⟨by rw [HTK.out, Int.ofNat_sub (by omega)], rfl⟩
            · have HTK : Hid (tkOf keep ah (ty i) (zs i) = (zs i).length) := by unfold Hid tkOf; rw [if_neg htk]
              go_wp2_with fail
              go_meet
              exact ⟨by rw [HTK.out], rfl⟩
          case rest =>
          obtain ⟨rfl, rfl⟩ := hcut
          rename World => wr
          have htk := tkOf_le keep ah (ty i) (zs i)
          obtain ⟨tk, htke⟩ : ∃ tk, tk = tkOf keep ah (ty i) (zs i) := ⟨_, rfl⟩
          have HME : Hid (modE keep ah (ty i) (zs i) = [(ty i, (zs i).take tk)]) := by unfold Hid; rw [modE_pos _ _ hak, htke]
          rw [← htke] at htk ⊢
          obtain ⟨l, hl⟩ : ∃ l, l = (zs i).take tk := ⟨_, rfl⟩
          have hll : tk = l.length := by rw [hl, List.length_take]; omega
          have HAL : Hid (AsnsF w0 xo l) := by unfold Hid; rw [hl]; exact HA.out.take tk
          have HXL : Hid (xo = none → l.length = 0 ∧ xc = 0) := fun h => ⟨by have := HX.out h; omega, HX.out h⟩
          have HME2 : Hid (modE keep ah (ty i) (zs i) = [(ty i, l)]) := by unfold Hid; rw [hl]; exact HME.out
          clear htke hl HME
          have HLT : Hid (R.length + 1 ≤ maxLen) := by unfold Hid maxLen; omega
          have HONE : Hid (∀ a, ∀ u ∈ [Value.int .u8 a], u.oneCell' = true) := by unfold Hid; simp [Value.oneCell']
          go_wp2_with (first | (at_builtin; refine wpList_append_lies _ rfl _ _ 22 rfl w0.heap.size 5 i5 _ 1 1 Trym.underlying22 hi5 hz5 hs5 hb5 (by rfl) (by decide) t R.length (typsOf R) rfl (by exact World.ownsRow.alloc HT.out.ot _) ⟨wr.heap.size, 0, none⟩ 1 1 [.int .u8 (ty i)] rfl (by rfl) (by exact newsT wr _ _) (by exact HONE.out _) (by decide) HLT.out (by omega) (by simp; omega) (wr.heap.size + 1) (by simp) ?_; intro g cap w1 hown1 hgrow hat hglt; clear hglt; have HT1 : Hid (Two w0 w1 (.slice (some ⟨g, 0, none⟩) (R.length + 1) cap) a (R ++ [(ty i, [], none, 0)]) R) := HT.out.typ hown1 hgrow hat rfl; clear hown1 hgrow hat; have e5 := (HT1.out.below.cell (p := ⟨b2, off2 + i, none⟩) heb).trans E0.out))
          refine (b1CloneU32_any xo l xc _ (HAL.out.later (Nat.le_refl _) HT1.out.below) (by omega) HXL.out).mono ?_
          rintro e w2 ⟨⟨bo, c, rfl, ha1, hc1, hc2, hc3⟩, hb1⟩
          have HT2 : Hid (Two w0 w2 (.slice (some ⟨g, 0, none⟩) (R.length + 1) cap) a (R ++ [(ty i, [], none, 0)]) R) := HT1.out.later hb1
          have HG2 : Hid (∀ W : World, But2 w2 W (.slice (some ⟨g, 0, none⟩) (R.length + 1) cap) a → Good W (ty i, l, bo, c)) := HT1.out.fresh ha1 hc1 hc2 hc3
          have hsz2 : w0.heap.size ≤ w2.heap.size := HT2.out.below.size
          have HONE2 : Hid (∀ a b c, ∀ u ∈ [Value.slice a b c], u.oneCell' = true) := by unfold Hid; simp [Value.oneCell']
          clear ha1 hb1 e5 d1 e1 HT1
          go_upto_region 13 with (first | (at_builtin; refine wpList_append_lies _ rfl _ _ 33 rfl w0.heap.size 47 i47 _ 1 24 Trym.underlying33 hi47 hz47 hs47 hb47 (by rfl) (by decide) a R.length (valsOf R) rfl (by exact World.ownsRow.alloc HT2.out.oa _) ⟨w2.heap.size, 0, none⟩ 1 1 [.slice bo l.length c] rfl (by rfl) (by exact newsT w2 _ _) (by exact HONE2.out _ _ _) (by decide) HLT.out (by omega) (by simp; omega) (w2.heap.size + 1) (by simp) ?_; intro g2 cap2 w3 hown1 hgrow hat hglt; clear hglt; have HT3 : Hid (Two w0 w3 (.slice (some ⟨g, 0, none⟩) (R.length + 1) cap) (.slice (some ⟨g2, 0, none⟩) (R.length + 1) cap2) (R ++ [(ty i, l, bo, c)]) (R ++ [(ty i, l, bo, c)])) := (HT2.out.asn HG2.out hown1 hgrow hat rfl).swap (by simp [typsOf]); clear hown1 hgrow hat; have d5 := (HT3.out.below.cell (p := ⟨b, off + i, none⟩) hdb).trans D0.out; have e5 := (HT3.out.below.cell (p := ⟨b2, off2 + i, none⟩) heb).trans E0.out))
          have HR2 : Hid ((R ++ [(ty i, l, bo, c)]).map segOf = R.map segOf ++ modE keep ah (ty i) (zs i)) := by unfold Hid; rw [HME2.out]; simp [segOf]
          cases hty : (ty i == 2)
          · cases hty1 : (ty i == 1)
            · have HC : Hid (ah = ah + cnt (ty i) (zs i)) := by unfold Hid cnt; rw [hty, hty1]; rfl
              go_wp2_with fail
              go_roundw
              case rel => exact ⟨i + 1, ah, _, _, _, by omega, by go_num, rfl, (by show _ = plen ty zs i + cnt (ty i) (zs i); rw [← HAH.out]; exact HC.out), mod_next hlt HK.out HR2.out HC.out, by simp; omega, rfl, rfl, HT3.out⟩
              case measure => simp [intOf]; omega
            · have HC : Hid (ah + 1 = ah + cnt (ty i) (zs i)) := by unfold Hid cnt; rw [hty, hty1]; rfl
              go_wp2_with fail
              go_roundw
              case rel => exact ⟨i + 1, ah + 1, _, _, _, by omega, by go_num, by go_num, (by show _ = plen ty zs i + cnt (ty i) (zs i); rw [← HAH.out]; exact HC.out), mod_next hlt HK.out HR2.out HC.out, by simp; omega, rfl, rfl, HT3.out⟩
              case measure => simp [intOf]; omega
          · have HC : Hid (ah + (zs i).length = ah + cnt (ty i) (zs i)) := by unfold Hid cnt; rw [hty]; rfl
            go_wp2_with fail
            go_roundw
            case rel => exact ⟨i + 1, ah + (zs i).length, _, _, _, by omega, by go_num, by go_num, (by show _ = plen ty zs i + cnt (ty i) (zs i); rw [← HAH.out]; exact HC.out), mod_next hlt HK.out HR2.out HC.out, by simp; omega, rfl, rfl, HT3.out⟩
            case measure => simp [intOf]; omega
        · have haki : ¬ (ah : Int) < (keep : Int) := by omega
          have HR2 : Hid (R.map segOf = R.map segOf ++ modE keep ah (ty i) (zs i)) := by unfold Hid; rw [modE_neg _ _ hak, List.append_nil]
          cases hty : (ty i == 2)
          · cases hty1 : (ty i == 1)
            · have HC : Hid (ah = ah + cnt (ty i) (zs i)) := by unfold Hid cnt; rw [hty, hty1]; rfl
              go_wp2_with fail
              go_roundw
              case rel => exact ⟨i + 1, ah, R, _, _, by omega, by go_num, rfl, (by show _ = plen ty zs i + cnt (ty i) (zs i); rw [← HAH.out]; exact HC.out), mod_next hlt HK.out HR2.out HC.out, by omega, rfl, rfl, HT.out⟩
              case measure => simp [intOf]; omega
            · have HC : Hid (ah + 1 = ah + cnt (ty i) (zs i)) := by unfold Hid cnt; rw [hty, hty1]; rfl
              go_wp2_with fail
              go_roundw
              case rel => exact ⟨i + 1, ah + 1, R, _, _, by omega, by go_num, by go_num, (by show _ = plen ty zs i + cnt (ty i) (zs i); rw [← HAH.out]; exact HC.out), mod_next hlt HK.out HR2.out HC.out, by omega, rfl, rfl, HT.out⟩
              case measure => simp [intOf]; omega
          · have HC : Hid (ah + (zs i).length = ah + cnt (ty i) (zs i)) := by unfold Hid cnt; rw [hty]; rfl
            go_wp2_with fail
            go_roundw
            case rel => exact ⟨i + 1, ah + (zs i).length, R, _, _, by omega, by go_num, by go_num, (by show _ = plen ty zs i + cnt (ty i) (zs i); rw [← HAH.out]; exact HC.out), mod_next hlt HK.out HR2.out HC.out, by omega, rfl, rfl, HT.out⟩
            case measure => simp [intOf]; omega
      · obtain rfl : i = n := by omega
        have HK2 : Hid (R.map segOf = modC keep 0 (segsOf i ty zs)) := by
          have h := HK.out
          rw [List.drop_of_length_le (by rw [segsOf_length]; exact Nat.le_refl _), modC, List.append_nil] at h
          exact h.symm
        go_wp2_with fail
        go_meet
        exact ⟨R, _, _, rfl, rfl, HK2.out, by omega, HT.out⟩
  case rest =>
  obtain ⟨R, t, a, rfl, rfl, hR, hRn, htwo⟩ := hcut
  rename World => w1
  have HRS : Hid (R.map segOf = modC keep 0 (segsOf n ty zs)) := hR
  have HT : Hid (Two w0 w1 t a R R) := htwo
  have hsz : w0.heap.size ≤ w1.heap.size := htwo.below.size
  obtain ⟨tb, tc, rfl, ht1, ht2, ht3⟩ := owns_slice htwo.ot
  obtain ⟨ab, ac, rfl, ha1, ha2, ha3⟩ := owns_slice htwo.oa
  unfold maxLen at ht2 ha2
  have HTB : Hid (R.length = 0 ∨ ∃ g, tb = some ⟨g, 0, none⟩ ∧ w0.heap.size ≤ g ∧ g < w1.heap.size ∧ (∀ o, w1.frozen? ⟨g, o, none⟩ = false) ∧ ∀ j u, (typsOf R)[j]? = some u → w1.cell? ⟨g, 0 + j, none⟩ = some u) := ht3
  have HAB : Hid (R.length = 0 ∨ ∃ g, ab = some ⟨g, 0, none⟩ ∧ w0.heap.size ≤ g ∧ g < w1.heap.size ∧ (∀ o, w1.frozen? ⟨g, o, none⟩ = false) ∧ ∀ j u, (valsOf R)[j]? = some u → w1.cell? ⟨g, 0 + j, none⟩ = some u) := ha3
  clear hR htwo ht3 ha3
  obtain ⟨r, hr⟩ : ∃ r, r = R.length := ⟨_, rfl⟩
  rw [← hr] at hRn ht1 ha1 HT HTB HAB ⊢
  have HRL : Hid (r = R.length) := hr
  clear hr
  go_upto_region 18 with fail
  go_cut [109] (fun v wc => v = .bool (meets R m (ty' 0)) ∧ wc = w1)
  case first =>
    by_cases hr0 : 0 < r
    · have hri : (0 : Int) < (r : Int) := by omega
      obtain ⟨g, htb, hg0, hg1, _, hc⟩ : ∃ g, tb = some ⟨g, 0, none⟩ ∧ w0.heap.size ≤ g ∧ g < w1.heap.size ∧ (∀ o, w1.frozen? ⟨g, o, none⟩ = false) ∧ ∀ j u, (typsOf R)[j]? = some u → w1.cell? ⟨g, 0 + j, none⟩ = some u := by
        rcases HTB.out with h | h
        · omega
        · exact h
      have d1 : w1.cell? ⟨g, r - 1, none⟩ = some (.int .u8 (lastTy R)) := by
        have := hc (r - 1) _ (typsOf_last (by rw [← HRL.out]; exact hr0) HRL.out)
        rw [Nat.zero_add] at this
        exact this
      clear hc
      have HRP : Hid (0 < R.length) := by unfold Hid; rw [← HRL.out]; exact hr0
      cases hl2 : (lastTy R == 2)
      · have HM : Hid (meets R m (ty' 0) = false) := by unfold Hid meets; rw [hl2]; simp
        go_wp2_with fail
        go_meet
        exact ⟨by rw [HM.out], rfl⟩
      · by_cases hm0 : 0 < m
        · have hmi : (0 : Int) < (m : Int) := by omega
          obtain ⟨b, off, ha3, d0⟩ := H3.out.at hm0
          have d2 := (HT.out.below.cell (p := ⟨b, off + 0, none⟩) (cell_lt d0)).trans d0
          rw [Nat.add_zero] at d2
          have HM : Hid (meets R m (ty' 0) = (ty' 0 == 2)) := by unfold Hid meets; rw [hl2, decide_eq_true HRP.out, decide_eq_true hm0]; rfl
          clear d0
          cases ht2 : (ty' 0 == 2)
          · go_wp2_with fail
            go_meet
            exact ⟨by rw [HM.out, ht2], rfl⟩
          · go_wp2_with fail
            go_meet
            exact ⟨by rw [HM.out, ht2], rfl⟩
        · have hmi : ¬ (0 : Int) < (m : Int) := by omega
          have HM : Hid (meets R m (ty' 0) = false) := by unfold Hid meets; simp [hm0]
          subst htb
          go_wp2_with fail
          go_meet
          exact ⟨by rw [HM.out], rfl⟩
    · have hri : ¬ (0 : Int) < (r : Int) := by omega
      have HM : Hid (meets R m (ty' 0) = false) := by unfold Hid; exact meets_nil (by rw [← HRL.out]; exact hr0)
      go_wp2_with fail
      go_meet
      exact ⟨by rw [HM.out], rfl⟩
  case rest =>
  obtain ⟨rfl, rfl⟩ := hcut
  rename World => w1
  go_upto_if 109 with fail
  go_cut [13, 17] (fun av jv wc => ∃ (R' : List Ent) (a' : Value) (j : Nat), a' = av ∧ jv = .int .i64 j ∧ j ≤ m ∧ joinL (R.map segOf) (segsOf m ty' zs') = R'.map segOf ++ (segsOf m ty' zs').drop j ∧ R'.length = r ∧ Two w0 wc (.slice tb r tc) a' R' R')
  case first =>
    cases hmeet : meets R m (ty' 0)
    · have HJ : Hid (joinL (R.map segOf) (segsOf m ty' zs') = R.map segOf ++ (segsOf m ty' zs').drop 0) := by unfold Hid; rw [join_apart hmeet, List.drop_zero]
      go_wp2_with fail
      go_meet
      exact ⟨R, _, 0, rfl, rfl, Nat.zero_le _, HJ.out, HRL.out.symm, HT.out⟩
    · obtain ⟨M, e, rfl, he, hm0, ht0⟩ := meets_true hmeet
      have HE2 : Hid (e.1 = 2) := he
      have HT0 : Hid (ty' 0 = 2) := ht0
      have hrM : r = M.length + 1 := by rw [HRL.out]; simp
      have HRM : Hid (r = M.length + 1) := hrM
      obtain ⟨g, rfl, hg0, hg1, hfz, hc⟩ : ∃ g, ab = some ⟨g, 0, none⟩ ∧ w0.heap.size ≤ g ∧ g < w1.heap.size ∧ (∀ o, w1.frozen? ⟨g, o, none⟩ = false) ∧ ∀ j u, (valsOf (M ++ [e]))[j]? = some u → w1.cell? ⟨g, 0 + j, none⟩ = some u := by
        rcases HAB.out with h | h
        · omega
        · exact h
      obtain ⟨t1, l1, xo, xc⟩ := e
      have d1 : w1.cell? ⟨g, r - 1, none⟩ = some (.slice xo l1.length xc) := by
        have := hc (r - 1) (.slice xo l1.length xc) (by rw [hrM]; simp [valsOf, valOf])
        rw [Nat.zero_add] at this
        exact this
      have hgood := HT.out.good (t1, l1, xo, xc) (by simp) w1 (fun k _ _ _ => rfl)
      have HA1 : Hid (AsnsF w1 xo l1) := hgood.asns
      have hx1 : l1.length ≤ xc := hgood.le
      have hx2 : xc ≤ 9223372036854775807 := hgood.top
      obtain ⟨b4, off4, yo, yc, rfl, e0, e2, e3, hay, _⟩ := H4.out.at hm0
      have HA2 : Hid (AsnsF w0 yo (zs' 0)) := hay
      have e1 := (HT.out.below.cell (p := ⟨b4, off4 + 0, none⟩) (cell_lt e0)).trans e0
      rw [Nat.add_zero] at e1
      unfold maxLen at e3
      have hl2 := HS'.out.2 0 hm0
      have hl1 : l1.length ≤ 1048576 := mod_small HS.out HRS.out (e := (t1, l1, xo, xc)) (by simp)
      have hri : (0 : Int) < (r : Int) := by omega
      have hmi : (0 : Int) < (m : Int) := by omega
      clear hgood hc hay e0 he ht0 hrM hmeet
      go_upto_region 20 with fail
      have hmk : ∀ w, (Instr.makeSlice 47 (.int .i64 0) (.int .i64 ((l1.length : Int) + ((zs' 0).length : Int)))).run Trym.prog w = .ok (.slice (some ⟨w.heap.size, 0, none⟩) 0 (l1.length + (zs' 0).length)) (w.alloc (.cells (madeCells #[.int .u32 0] (l1.length + (zs' 0).length)) 34)) := fun w => by
        have h := run_make (P := Trym.prog) w 47 34 i34 _ Trym.underlying47 hi34 hz34 .i64 .i64 0 ((l1.length : Int) + ((zs' 0).length : Int)) (by omega) (by omega) (by rw [hb34]; omega) (by omega)
        rw [hs34, Nat.mul_one] at h
        have e : ((l1.length : Int) + ((zs' 0).length : Int)).toNat = l1.length + (zs' 0).length := by omega
        rw [e] at h
        exact h
      go_cut [19] (fun v wc => ∃ x, x = v ∧ Own32 wc w1.heap.size x [] ∧ Below w1.heap.size w1 wc)
      case first =>
        go_region
        go_wp2_with fail
        go_meet
        refine ⟨_, rfl, ?_, ?_⟩
        · exact World.ownsRow_made _ _ _ (by simp) (by unfold maxLen; omega) (by simp [madeCells])
        · exact ((Below.refl _ _).alloc (Nat.le_refl _) _).drew
      case rest =>
      obtain ⟨jv0, rfl, ho0, hb0⟩ := hcut
      rename World => w2
      have HO0 : Hid (Own32 w2 w1.heap.size jv0 []) := ho0
      have HB0 : Hid (Below w1.heap.size w1 w2) := hb0
      have D1 : Hid (w1.cell? ⟨g, r - 1, none⟩ = some (.slice xo l1.length xc)) := d1
      have E1 : Hid (w1.cell? ⟨b4, off4, none⟩ = some (.slice yo (zs' 0).length yc)) := e1
      have HFZ : Hid (∀ o, w1.frozen? ⟨g, o, none⟩ = false) := hfz
      have hb4 : b4 < w1.heap.size := cell_lt e1
      have HA3 : Hid (AsnsF w1 yo (zs' 0)) := HA2.out.later (Nat.le_refl _) HT.out.below
      have HONE : Hid (∀ a, ∀ u ∈ [Value.int .u32 a], u.oneCell' = true) := by unfold Hid; simp [Value.oneCell']
      clear ho0 hb0 d1 e1 hfz hmk HA2
      go_upto_block 2 with fail
      go_cut [19] (fun v wc => ∃ x, x = v ∧ Own32 wc w1.heap.size x l1 ∧ Below w1.heap.size w1 wc)
      case first =>
        go_wp2_with fail
        go_loopw [19, 20] (fun v iv wr => ∃ (j : Nat) (x : Value), j ≤ l1.length ∧ iv = .int .i64 j ∧ x = v ∧ Own32 wr w1.heap.size x (l1.take j) ∧ Below w1.heap.size w1 wr) (fun _ i _ => l1.length - (intOf i).toNat)
        case atStart => exact ⟨0, _, Nat.zero_le _, rfl, rfl, by simpa using HO0.out, HB0.out⟩
        case round =>
          obtain ⟨j, x, hj, rfl, rfl, ho, hb⟩ := hrel
          have HO : Hid (Own32 wr w1.heap.size x (l1.take j)) := ho
          have HB : Hid (Below w1.heap.size w1 wr) := hb
          have d1 := (hb.cell (p := ⟨g, r - 1, none⟩) hg1).trans D1.out
          have hw2 : w1.heap.size ≤ wr.heap.size := hb.size
          clear ho hb
          by_cases hjl : j < l1.length
          · obtain ⟨p, po, rfl, q0⟩ := HA1.out.at hjl
            have q1 := (HB.out.cell (p := ⟨p, po + j, none⟩) (cell_lt q0)).trans q0
            have hji : (j : Int) < (l1.length : Int) := by omega
            have HLL : Hid ((l1.take j).length + 1 ≤ maxLen) := by unfold Hid maxLen; simp; omega
            have HLB : Hid (((l1.take j).length + 1) * 4 ≤ 140737488355328) := by unfold Hid; simp; omega
            clear q0
            go_wp2_with (first | (at_builtin; refine wpList_append_lies _ rfl _ _ 47 rfl w1.heap.size 34 i34 _ 1 4 Trym.underlying47 hi34 hz34 hs34 hb34 (by rfl) (by decide) x (l1.take j).length (u32s (l1.take j)) rfl (by exact World.ownsRow.alloc HO.out _) ⟨wr.heap.size, 0, none⟩ 1 1 [.int .u32 (nth l1 j)] rfl (by rfl) (by exact news32 wr _) (by exact HONE.out _) (by decide) HLL.out HLB.out (by simp; omega) (wr.heap.size + 1) (by simp) ?_; intro g3 cap w3 hown1 hgrow hat hglt; clear hat hglt; have HO3 : Hid (Own32 w3 w1.heap.size (.slice (some ⟨g3, 0, none⟩) ((l1.take j).length + 1) cap) (l1.take (j + 1))) := (by unfold Hid; rw [take_next hjl]; exact Own32.more hown1); have HB3 : Hid (Below w1.heap.size w1 w3) := (HB.out.alloc hw2 _).grown hgrow (by simp; omega) HO.out.row; clear hown1 hgrow) | go_in)
            go_roundw
            case rel => exact ⟨j + 1, _, by omega, by go_num, rfl, (by have h := HO3.out; first | exact h | (rw [show (l1.take j).length = j by simp; omega] at h; exact h)), HB3.out⟩
            case measure => simp [intOf]; omega
          · obtain rfl : j = l1.length := by omega
            have HO4 : Hid (Own32 wr w1.heap.size x l1) := by
              have := HO.out
              rw [List.take_length] at this
              exact this
            go_wp2_with fail
            go_meet
            exact ⟨_, rfl, HO4.out, HB.out⟩
      case rest =>
      obtain ⟨jv1, rfl, ho1, hb1⟩ := hcut
      rename World => w3
      have HO1 : Hid (Own32 w3 w1.heap.size jv1 l1) := ho1
      have HB1 : Hid (Below w1.heap.size w1 w3) := hb1
      clear ho1 hb1 HO0 HB0
      go_upto_block 4 with fail
      go_cut [19] (fun v wc => ∃ x, x = v ∧ Own32 wc w1.heap.size x (l1 ++ zs' 0) ∧ Below w1.heap.size w1 wc)
      case first =>
        go_wp2_with fail
        go_loopw [19, 21] (fun v iv wr => ∃ (j : Nat) (x : Value), j ≤ (zs' 0).length ∧ iv = .int .i64 j ∧ x = v ∧ Own32 wr w1.heap.size x (l1 ++ (zs' 0).take j) ∧ Below w1.heap.size w1 wr) (fun _ i _ => (zs' 0).length - (intOf i).toNat)
        case atStart => exact ⟨0, _, Nat.zero_le _, rfl, rfl, by simpa using HO1.out, HB1.out⟩
        case round =>
          obtain ⟨j, x, hj, rfl, rfl, ho, hb⟩ := hrel
          have HO : Hid (Own32 wr w1.heap.size x (l1 ++ (zs' 0).take j)) := ho
          have HB : Hid (Below w1.heap.size w1 wr) := hb
          have e1 := (hb.cell (p := ⟨b4, off4, none⟩) hb4).trans E1.out
          have hw2 : w1.heap.size ≤ wr.heap.size := hb.size
          clear ho hb
          by_cases hjl : j < (zs' 0).length
          · obtain ⟨p, po, rfl, q0⟩ := HA3.out.at hjl
            have q1 := (HB.out.cell (p := ⟨p, po + j, none⟩) (cell_lt q0)).trans q0
            have hji : (j : Int) < ((zs' 0).length : Int) := by omega
            have HLL : Hid ((l1 ++ (zs' 0).take j).length + 1 ≤ maxLen) := by unfold Hid maxLen; simp; omega
            have HLB : Hid (((l1 ++ (zs' 0).take j).length + 1) * 4 ≤ 140737488355328) := by unfold Hid; simp; omega
            clear q0
            go_wp2_with (first | (at_builtin; refine wpList_append_lies _ rfl _ _ 47 rfl w1.heap.size 34 i34 _ 1 4 Trym.underlying47 hi34 hz34 hs34 hb34 (by rfl) (by decide) x (l1 ++ (zs' 0).take j).length (u32s (l1 ++ (zs' 0).take j)) rfl (by exact World.ownsRow.alloc HO.out _) ⟨wr.heap.size, 0, none⟩ 1 1 [.int .u32 (nth (zs' 0) j)] rfl (by rfl) (by exact news32 wr _) (by exact HONE.out _) (by decide) HLL.out HLB.out (by simp; omega) (wr.heap.size + 1) (by simp) ?_; intro g3 cap w3 hown1 hgrow hat hglt; clear hat hglt; have HO3 : Hid (Own32 w3 w1.heap.size (.slice (some ⟨g3, 0, none⟩) ((l1 ++ (zs' 0).take j).length + 1) cap) (l1 ++ (zs' 0).take (j + 1))) := (by unfold Hid; rw [take_next hjl, ← List.append_assoc]; exact Own32.more hown1); have HB3 : Hid (Below w1.heap.size w1 w3) := (HB.out.alloc hw2 _).grown hgrow (by simp; omega) HO.out.row; clear hown1 hgrow) | go_in)
            go_roundw
            case rel => exact ⟨j + 1, _, by omega, by go_num, rfl, (by have h := HO3.out; first | exact h | (rw [show (l1 ++ (zs' 0).take j).length = l1.length + j by simp; omega] at h; exact h)), HB3.out⟩
            case measure => simp [intOf]; omega
          · obtain rfl : j = (zs' 0).length := by omega
            have HO4 : Hid (Own32 wr w1.heap.size x (l1 ++ zs' 0)) := by
              have := HO.out
              rw [List.take_length] at this
              exact this
            go_wp2_with fail
            go_meet
            exact ⟨_, rfl, HO4.out, HB.out⟩
      case rest =>
      obtain ⟨jv2, rfl, ho2, hb2⟩ := hcut
      rename World => w4
      have HO2 : Hid (Own32 w4 w1.heap.size jv2 (l1 ++ zs' 0)) := ho2
      have HB2 : Hid (Below w1.heap.size w1 w4) := hb2
      have d1 := (hb2.cell (p := ⟨g, r - 1, none⟩) hg1).trans D1.out
      have hfz : w4.frozen? ⟨g, r - 1, none⟩ = false := (World.frozen?_of_block (hb2.block g hg1)).trans (HFZ.out _)
      clear ho2 hb2 HO1 HB1
      obtain ⟨L, hL⟩ : ∃ L, L = l1 ++ zs' 0 := ⟨_, rfl⟩
      rw [← hL] at HO2
      obtain ⟨bo, bc, rfl, _⟩ := HO2.out.form
      obtain ⟨e', he', htwo⟩ := HT.out.join HRM.out HO2.out HB2.out
      rw [hL] at he'
      clear hL
      have HT4 : Hid (Two w0 (w4.setCell ⟨g, r - 1, none⟩ (.slice bo L.length bc)) (.slice tb r tc) (.slice (some ⟨g, 0, none⟩) r ac) (M ++ [e']) (M ++ [e'])) := htwo
      have HJ : Hid (joinL ((M ++ [(t1, l1, xo, xc)]).map segOf) (segsOf m ty' zs') = (M ++ [e']).map segOf ++ (segsOf m ty' zs').drop 1) := join_met HE2.out hm0 HT0.out he'
      clear htwo
      go_wp2_with fail
      go_meet
      exact ⟨M ++ [e'], _, 1, rfl, rfl, by omega, HJ.out, by rw [HRM.out]; simp, HT4.out⟩
  case rest =>
  obtain ⟨R1, a', j0, rfl, rfl, hj0, hJ0, hR1, htwo1⟩ := hcut
  rename World => w5
  have HJ0 : Hid (joinL (modC keep 0 (segsOf n ty zs)) (segsOf m ty' zs') = R1.map segOf ++ (segsOf m ty' zs').drop j0) := by unfold Hid; rw [← HRS.out]; exact hJ0
  have HT5 : Hid (Two w0 w5 (.slice tb r tc) a' R1 R1) := htwo1
  clear hJ0 htwo1 HT HTB HAB HRS
  go_wp2_with fail
  go_loopw [12, 13, 17] (fun tv av jv wr => ∃ (j : Nat) (R : List Ent) (t a : Value), j ≤ m ∧ jv = .int .i64 j ∧ joinL (modC keep 0 (segsOf n ty zs)) (segsOf m ty' zs') = R.map segOf ++ (segsOf m ty' zs').drop j ∧ R.length ≤ n + j ∧ t = tv ∧ a = av ∧ Two w0 wr t a R R) (fun _ _ j _ => m - (intOf j).toNat)
  case atStart => exact ⟨j0, R1, _, _, hj0, rfl, HJ0.out, by omega, rfl, rfl, HT5.out⟩
  case round =>
    obtain ⟨j, R, t, a, hj, rfl, hk, hR, rfl, rfl, htwo⟩ := hrel
    have HK : Hid (joinL (modC keep 0 (segsOf n ty zs)) (segsOf m ty' zs') = R.map segOf ++ (segsOf m ty' zs').drop j) := hk
    have HT : Hid (Two w0 wr t a R R) := htwo
    have HB : Hid (Below w0.heap.size w0 wr) := htwo.below
    have hsz : w0.heap.size ≤ wr.heap.size := htwo.below.size
    clear hk htwo HT5 HJ0 hj0 hR1
    by_cases hlt : j < m
    · obtain ⟨b, off, rfl, d0⟩ := H3.out.at hlt
      obtain ⟨b2, off2, xo, xc, rfl, e0, e2, e3, ha, hx⟩ := H4.out.at hlt
      have HA : Hid (AsnsF w0 xo (zs' j)) := ha
      have HX : Hid (xo = none → (zs' j).length = 0 ∧ xc = 0) := fun h => ⟨by have := hx h; omega, hx h⟩
      have d1 := (HB.out.cell (p := ⟨b, off + j, none⟩) (cell_lt d0)).trans d0
      have heb : b2 < w0.heap.size := cell_lt e0
      have E0 : Hid (w0.cell? ⟨b2, off2 + j, none⟩ = some (.slice xo (zs' j).length xc)) := e0
      have hli := HS'.out.2 j hlt
      have hji : (j : Int) < (m : Int) := by omega
      have HLT : Hid (R.length + 1 ≤ maxLen) := by unfold Hid maxLen; omega
      have HONE : Hid (∀ a, ∀ u ∈ [Value.int .u8 a], u.oneCell' = true) := by unfold Hid; simp [Value.oneCell']
      have HONE2 : Hid (∀ a b c, ∀ u ∈ [Value.slice a b c], u.oneCell' = true) := by unfold Hid; simp [Value.oneCell']
      clear ha hx d0 e0
      unfold maxLen at e3
      go_wp2_with (first | (at_builtin; refine wpList_append_lies _ rfl _ _ 22 rfl w0.heap.size 5 i5 _ 1 1 Trym.underlying22 hi5 hz5 hs5 hb5 (by rfl) (by decide) t R.length (typsOf R) rfl (by exact World.ownsRow.alloc HT.out.ot _) ⟨wr.heap.size, 0, none⟩ 1 1 [.int .u8 (ty' j)] rfl (by rfl) (by exact newsT wr _ _) (by exact HONE.out _) (by decide) HLT.out (by omega) (by simp; omega) (wr.heap.size + 1) (by simp) ?_; intro g cap w1 hown1 hgrow hat hglt; clear hglt; have HT1 : Hid (Two w0 w1 (.slice (some ⟨g, 0, none⟩) (R.length + 1) cap) a (R ++ [(ty' j, [], none, 0)]) R) := HT.out.typ hown1 hgrow hat rfl; clear hown1 hgrow hat; have e5 := (HT1.out.below.cell (p := ⟨b2, off2 + j, none⟩) heb).trans E0.out))
      refine (b1CloneU32_any xo (zs' j) xc _ (HA.out.later (Nat.le_refl _) HT1.out.below) hli HX.out).mono ?_
      rintro e w2 ⟨⟨bo, c, rfl, ha1, hc1, hc2, hc3⟩, hb1⟩
      have HT2 : Hid (Two w0 w2 (.slice (some ⟨g, 0, none⟩) (R.length + 1) cap) a (R ++ [(ty' j, [], none, 0)]) R) := HT1.out.later hb1
      have HG2 : Hid (∀ W : World, But2 w2 W (.slice (some ⟨g, 0, none⟩) (R.length + 1) cap) a → Good W (ty' j, zs' j, bo, c)) := HT1.out.fresh ha1 hc1 hc2 hc3
      have hsz2 : w0.heap.size ≤ w2.heap.size := HT2.out.below.size
      clear ha1 hb1 e5 d1 HT1
      go_wp2_with (first | (at_builtin; refine wpList_append_lies _ rfl _ _ 33 rfl w0.heap.size 47 i47 _ 1 24 Trym.underlying33 hi47 hz47 hs47 hb47 (by rfl) (by decide) a R.length (valsOf R) rfl (by exact World.ownsRow.alloc HT2.out.oa _) ⟨w2.heap.size, 0, none⟩ 1 1 [.slice bo (zs' j).length c] rfl (by rfl) (by exact newsT w2 _ _) (by exact HONE2.out _ _ _) (by decide) HLT.out (by omega) (by simp; omega) (w2.heap.size + 1) (by simp) ?_; intro g2 cap2 w3 hown1 hgrow hat hglt; clear hglt; have HT3 : Hid (Two w0 w3 (.slice (some ⟨g, 0, none⟩) (R.length + 1) cap) (.slice (some ⟨g2, 0, none⟩) (R.length + 1) cap2) (R ++ [(ty' j, zs' j, bo, c)]) (R ++ [(ty' j, zs' j, bo, c)])) := (HT2.out.asn HG2.out hown1 hgrow hat rfl).swap (by simp [typsOf]); clear hown1 hgrow hat))
      have HK2 : Hid (joinL (modC keep 0 (segsOf n ty zs)) (segsOf m ty' zs') = (R ++ [(ty' j, zs' j, bo, c)]).map segOf ++ (segsOf m ty' zs').drop (j + 1)) := by unfold Hid; rw [HK.out, segs_drop ty' zs' hlt]; simp [segOf]
      go_roundw
      case rel => exact ⟨j + 1, _, _, _, by omega, by go_num, HK2.out, by simp; omega, rfl, rfl, HT3.out⟩
      case measure => simp [intOf]; omega
    · obtain rfl : j = m := by omega
      have HK2 : Hid (R.map segOf = joinL (modC keep 0 (segsOf n ty zs)) (segsOf j ty' zs')) := by
        have h := HK.out
        rw [List.drop_of_length_le (by rw [segsOf_length]; exact Nat.le_refl _), List.append_nil] at h
        exact h.symm
      go_wp2_with fail
      go_ret2
      exact ⟨⟨_, _, R, rfl, HK2.out, HT.out⟩, HB.out⟩
end Go.Proofs.Qxb6614704aMods
