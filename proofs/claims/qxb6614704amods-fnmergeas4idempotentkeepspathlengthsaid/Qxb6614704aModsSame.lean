/-
  b1SameResult, of two decoders that hold the same.
-/
import Derived.Test.Qxb6614704aModsRead
namespace Go.Proofs.Qxb6614704aMods
open Go.RowKit

set_option maxHeartbeats 1600000 in
theorem same_any (ba bd ba' bd' : Nat) (as4 : Bool) (P : List Seg) (ag ag4 : Option Int) (F : Option (List Seg)) (w : World) (hd : Dec w ba bd as4 P ag ag4 F) (hd' : Dec w ba' bd' as4 P ag ag4 F) (bn : P.length ≤ 4194304) :
    Calls Trym.prog 25 #[.pointer (some ⟨bd, 0, none⟩), .pointer (some ⟨bd', 0, none⟩)] w fun e w' => e = .returned (.bool true) ∧ Below w.heap.size w w' := by
  have HD : Hid (∀ W, Below w.heap.size w W → Dec W ba bd as4 P ag ag4 F) := fun W hb => hd.later hb
  have HE : Hid (∀ W, Below w.heap.size w W → Dec W ba' bd' as4 P ag ag4 F) := fun W hb => hd'.later hb
  clear hd hd'
  rename World => w0
  go_enter Trym.func25, Trym.ntmps25
  go_wp2_with fail
  refine (pathLen_any _ _ _ _ _ _ _ _ (HD.out _ (Below.refl _ _))).mono ?_
  rintro e w' ⟨rfl, rfl⟩
  rename World => w0
  go_wp2_with fail
  refine (pathLen_any _ _ _ _ _ _ _ _ (HE.out _ (Below.refl _ _))).mono ?_
  rintro e w' ⟨rfl, rfl⟩
  rename World => w0
  go_wp2_with fail
  go_loopw [6] (fun i wr => ∃ k : Nat, k ≤ P.length ∧ i = .int .i64 k ∧ Below w0.heap.size w0 wr) (fun i _ => P.length - (intOf i).toNat)
  case atStart => exact ⟨0, Nat.zero_le _, rfl, Below.refl _ _⟩
  case round =>
    obtain ⟨k, hk, rfl, hb⟩ := hrel
    rename World => wo
    have HB : Hid (Below w0.heap.size w0 wo) := hb
    clear hb
    by_cases hlt : k < P.length
    · have hki : (k : Int) < (P.length : Int) := by omega
      go_wp2_with fail
      refine (pathTyp_any _ _ _ _ _ _ _ _ (HD.out _ HB.out) k hlt).mono ?_
      rintro e w' ⟨rfl, rfl⟩
      rename World => wo
      go_wp2_with fail
      refine (pathTyp_any _ _ _ _ _ _ _ _ (HE.out _ HB.out) k hlt).mono ?_
      rintro e w' ⟨rfl, rfl⟩
      rename World => wo
      go_wp2_with fail
      refine (pathASNs_any _ _ _ _ _ _ _ _ (HD.out _ HB.out) k hlt).mono ?_
      rintro e w' ⟨⟨yo, yc, rfl, hy, hy1, hy2⟩, rfl⟩
      rename World => wo
      have HY : Hid (AsnsF wo yo (zsL P k)) := hy
      clear hy
      go_wp2_with fail
      refine (pathASNs_any _ _ _ _ _ _ _ _ (HE.out _ HB.out) k hlt).mono ?_
      rintro e w' ⟨⟨xo, xc, rfl, hx, hx1, hx2⟩, rfl⟩
      rename World => wo
      have HA : Hid (AsnsF wo xo (zsL P k)) := hx
      clear hx
      unfold maxLen at hx2 hy2
      go_wp2_with fail
      go_loopw [9] (fun i wr => ∃ j : Nat, j ≤ (zsL P k).length ∧ i = .int .i64 j ∧ Below wo.heap.size wo wr) (fun i _ => (zsL P k).length - (intOf i).toNat)
      case atStart => exact ⟨0, Nat.zero_le _, rfl, Below.refl _ _⟩
      case round =>
        obtain ⟨j, hj, rfl, hbq⟩ := hrel
        have HBQ : Hid (Below wo.heap.size wo wr) := hbq
        clear hbq
        by_cases hjl : j < (zsL P k).length
        · obtain ⟨p, po, rfl, g0⟩ := HA.out.at hjl
          obtain ⟨p2, po2, rfl, g2⟩ := HY.out.at hjl
          have g1 := (HBQ.out.cell (p := ⟨p, po + j, none⟩) (cell_lt g0)).trans g0
          have g3 := (HBQ.out.cell (p := ⟨p2, po2 + j, none⟩) (cell_lt g2)).trans g2
          have hji : (j : Int) < ((zsL P k).length : Int) := by omega
          clear g0 g2
          go_upto_region 16 with fail
          go_quiet (fail)
          go_wp2_with fail
          go_roundw
          case rel => exact ⟨j + 1, by omega, by go_num, bel_drewN HBQ.out _⟩
          case measure => simp [intOf]; omega
        · obtain rfl : j = (zsL P k).length := by omega
          go_wp2_with fail
          go_roundw
          case rel => exact ⟨k + 1, by omega, by go_num, HB.out.trans (HBQ.out.mono HB.out.size)⟩
          case measure => simp [intOf]; omega
    · obtain rfl : k = P.length := by omega
      go_wp2_with fail
      refine (hasAggr_any _ _ _ _ _ _ _ _ (HD.out _ HB.out)).mono ?_
      rintro e w' ⟨rfl, rfl⟩
      rename World => wo
      go_wp2_with fail
      refine (hasAggr_any _ _ _ _ _ _ _ _ (HE.out _ HB.out)).mono ?_
      rintro e w' ⟨rfl, rfl⟩
      rename World => wo
      cases ag with
      | none =>
        go_wp2_with fail
        refine (hasAggr_any _ _ _ _ _ _ _ _ (HD.out _ HB.out)).mono ?_
        rintro e w' ⟨rfl, rfl⟩
        go_wp2_with fail
        go_ret
        exact ⟨rfl, HB.out⟩
      | some z =>
        go_wp2_with fail
        refine (hasAggr_any _ _ _ _ _ _ _ _ (HD.out _ HB.out)).mono ?_
        rintro e w' ⟨rfl, rfl⟩
        rename World => wo
        go_wp2_with fail
        refine (aggrAS_any _ _ _ _ _ _ _ _ (HD.out _ HB.out)).mono ?_
        rintro e w' ⟨rfl, rfl⟩
        rename World => wo
        go_wp2_with fail
        refine (aggrAS_any _ _ _ _ _ _ _ _ (HE.out _ HB.out)).mono ?_
        rintro e w' ⟨rfl, rfl⟩
        go_wp2_with fail
        go_ret
        exact ⟨rfl, HB.out⟩
end Go.Proofs.Qxb6614704aMods
