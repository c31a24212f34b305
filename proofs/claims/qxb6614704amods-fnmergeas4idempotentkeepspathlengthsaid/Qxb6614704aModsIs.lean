/-
  b1PathIs.
-/
import Derived.Test.Qxb6614704aModsRead
namespace Go.Proofs.Qxb6614704aMods
open Go.RowKit

set_option maxHeartbeats 1600000 in
theorem pathIs_any (ba bd : Nat) (as4 : Bool) (P : List Seg) (ag ag4 : Option Int) (F : Option (List Seg)) (w : World) (hd : Dec w ba bd as4 P ag ag4 F) (a1 a2 : Option Addr) (n c1 c2 : Nat) (ty : Nat → Int) (zs : Nat → List Int)
    (h1 : U8At w a1 n ty) (h2 : RowsAt w a2 n zs) (hl : P.length = n) (ht : ∀ i, i < n → tyL P i = ty i) (hz : ∀ i, i < n → zsL P i = zs i) (bn : n ≤ 4194304) :
    Calls Trym.prog 22 #[.pointer (some ⟨bd, 0, none⟩), .slice a1 n c1, .slice a2 n c2] w fun e w' => e = .returned (.bool true) ∧ Below w.heap.size w w' := by
  have HD : Hid (Dec w ba bd as4 P ag ag4 F) := hd
  have HL : Hid (P.length = n) := hl
  have HT : Hid (∀ i, i < n → tyL P i = ty i) := ht
  have HZ : Hid (∀ i, i < n → zsL P i = zs i) := hz
  have H1 : Hid (U8At w a1 n ty) := h1
  have H2 : Hid (RowsAt w a2 n zs) := h2
  clear hd h1 h2 hl ht hz
  go_enter Trym.func22, Trym.ntmps22
  go_wp2_with fail
  refine (pathLen_any _ _ _ _ _ _ _ _ HD.out).mono ?_
  rintro e w' ⟨rfl, rfl⟩
  rw [HL.out]
  rename World => w0
  go_wp2_with fail
  go_loopw [7] (fun i wr => ∃ k : Nat, k ≤ n ∧ i = .int .i64 k ∧ Below w0.heap.size w0 wr) (fun i _ => n - (intOf i).toNat)
  case atStart => exact ⟨0, Nat.zero_le _, rfl, Below.refl _ _⟩
  case round =>
    obtain ⟨k, hk, rfl, hb⟩ := hrel
    rename World => wo
    have HB : Hid (Below w0.heap.size w0 wo) := hb
    clear hb
    by_cases hlt : k < n
    · obtain ⟨b, off, rfl, d0⟩ := H1.out.at hlt
      obtain ⟨b2, off2, xo, xc, rfl, e0, e2, e3, ha, _⟩ := H2.out.at hlt
      have d1 := (HB.out.cell (p := ⟨b, off + k, none⟩) (cell_lt d0)).trans d0
      have e1 := (HB.out.cell (p := ⟨b2, off2 + k, none⟩) (cell_lt e0)).trans e0
      have et := HT.out k hlt
      have ez := HZ.out k hlt
      have HA : Hid (AsnsF wo xo (zs k)) := ha.later (Nat.le_refl _) HB.out
      have hki : (k : Int) < (n : Int) := by omega
      unfold maxLen at e3
      have HDR : Hid (∀ m, Dec (wo.drewN m) ba bd as4 P ag ag4 F) := fun m => HD.out.later (bel_drewN HB.out m)
      have CT : Hid (∀ m, Calls Trym.prog 28 #[.pointer (some ⟨bd, 0, none⟩), .int .i64 k] (wo.drewN m) fun e w' => e = .returned (.int .u8 (ty k)) ∧ w' = wo.drewN m) := fun m => by
        rw [← et]
        exact pathTyp_any _ _ _ _ _ _ _ _ (HDR.out m) k (by rw [HL.out]; exact hlt)
      clear d0 e0 ha et
      go_upto_region 6 with fail
      go_quiet (exact Calls.quiet_of_same (CT.out _))
      go_wp2_with fail
      refine (pathASNs_any _ _ _ _ _ _ _ _ (HDR.out nq) k (by rw [HL.out]; exact hlt)).mono ?_
      rintro e w' ⟨⟨yo, yc, rfl, hy, hy1, hy2⟩, rfl⟩
      rw [ez] at hy hy1 ⊢
      have HY : Hid (AsnsF wo yo (zs k)) := hy
      clear hy ez
      go_wp2_with fail
      go_loopw [9] (fun i wr => ∃ j : Nat, j ≤ (zs k).length ∧ i = .int .i64 j ∧ Below wo.heap.size wo wr) (fun i _ => (zs k).length - (intOf i).toNat)
      case atStart => exact ⟨0, Nat.zero_le _, rfl, bel_drewN (Below.refl _ _) _⟩
      case round =>
        obtain ⟨j, hj, rfl, hbq⟩ := hrel
        have HBQ : Hid (Below wo.heap.size wo wr) := hbq
        clear hbq
        by_cases hjl : j < (zs k).length
        · obtain ⟨p, po, rfl, g0⟩ := HA.out.at hjl
          obtain ⟨p2, po2, rfl, g2⟩ := HY.out.at hjl
          have g1 := (HBQ.out.cell (p := ⟨p, po + j, none⟩) (cell_lt g0)).trans g0
          have g3 := (HBQ.out.cell (p := ⟨p2, po2 + j, none⟩) (cell_lt g2)).trans g2
          have e4 := (HBQ.out.cell (p := ⟨b2, off2 + k, none⟩) (cell_lt e1)).trans e1
          have hji : (j : Int) < ((zs k).length : Int) := by omega
          clear g0 g2
          go_upto_region 14 with fail
          go_quiet (fail)
          go_wp2_with fail
          go_roundw
          case rel => exact ⟨j + 1, by omega, by go_num, bel_drewN HBQ.out _⟩
          case measure => simp [intOf]; omega
        · obtain rfl : j = (zs k).length := by omega
          go_wp2_with fail
          go_roundw
          case rel => exact ⟨k + 1, by omega, by go_num, HB.out.trans (HBQ.out.mono HB.out.size)⟩
          case measure => simp [intOf]; omega
    · obtain rfl : k = n := by omega
      go_wp2_with fail
      go_ret
      exact ⟨rfl, HB.out⟩
end Go.Proofs.Qxb6614704aMods
