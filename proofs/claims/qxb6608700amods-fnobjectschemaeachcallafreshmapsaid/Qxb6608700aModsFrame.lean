/-
  zzSchemaFrame.
-/
import Derived.Test.Qxb6608700aModsLoops
namespace Go.Proofs.Qxb6608700aMods
open Go.RowKit Go.Maps

theorem objLit : (tObject.toList == [111, 98, 106, 101, 99, 116]) = true := by rw [ByteArray.toList_eq]; rfl

set_option maxHeartbeats 800000 in
theorem zzSchemaFrame_any (ao : Option Addr) (len cap : Nat) (N V : Nat → ByteArray) (w : World) (b n p np : Nat) (v : Value) (req : Bool)
    (hp : PropsAt w ao len N V) (hl : len ≤ 4096) (hs : MapAt w b n (schema p v req)) (hm : MapAt w p np (built N V len)) :
    Calls Trym.prog 27 #[.map (some b), .slice ao len cap] w fun e w' => e = .returned (.bool true) ∧ ∃ n, w' = w.drewN n := by
  obtain ⟨a1, a2, a3⟩ := at_schema p v req (.held .nilIface)
  have A1 : Hid _ := a1
  have A2 : Hid _ := a2
  have A3 : Hid _ := a3
  have hobj := objLit
  have hsz : (((Maps.size (built N V len) : Nat) : Int) != ((cntD N len len : Nat) : Int)) = false := by rw [size_is_cnt]; simp
  clear a1 a2 a3
  go_enter Trym.func27, Trym.ntmps27
  go_wp2_with fail
  refine (ZZtextAt_any _ b n (schema p v req) _ _ hs (by decide) A1.out).mono ?_
  rintro e w ⟨rfl, rfl⟩
  go_wp2_with fail
  refine (ZZflagAt_any _ b n (schema p v req) _ _ hs (by decide) A3.out).mono ?_
  rintro e w ⟨rfl, rfl⟩
  go_wp2_with fail
  refine (ZZobjectAt_any _ b n (schema p v req) _ _ hs (by decide) A2.out).mono ?_
  rintro e w ⟨rfl, rfl⟩
  go_wp2_with fail
  refine (ZZlen_any _ p np (built N V len) hm).mono ?_
  rintro e w ⟨rfl, rfl⟩
  go_wp2_with fail
  refine (zzDistinctNames_any _ _ _ N V _ hp hl).mono ?_
  rintro e w1 ⟨rfl, n1, hw1⟩
  subst hw1
  go_wp2_with fail
  go_loopw [11] (fun i wr => ∃ k : Nat, k ≤ len ∧ i = .int .i64 k ∧ ∃ n, wr = w.drewN n) (fun i _ => len - (intOf i).toNat)
  case atStart => exact ⟨0, by omega, rfl, n1, rfl⟩
  case round =>
    obtain ⟨k, hk, rfl, n2, rfl⟩ := hrel
    by_cases hlt : k < len
    · obtain ⟨b2, off, rfl, c0, v0, s0, s1⟩ := hp.at hlt
      have A4 : Hid _ := at_built N V (N k) (.held .nilIface) len (seen_self N hlt)
      have hsame := same_refl (lastVal N V (N k) len)
      go_wp2_with fail
      refine (ZZtextAt_any _ p np (built N V len) _ _ (by exact hm) s0 A4.out).mono ?_
      rintro e w' ⟨rfl, rfl⟩
      go_wp2_with fail
      refine (zzLastValue_any _ _ _ N V _ _ (by exact hp) hl).mono ?_
      rintro e w' ⟨rfl, rfl⟩
      go_wp2_with fail
      go_roundw
      case rel => exact ⟨k + 1, by omega, by go_num, n2, rfl⟩
      case measure => simp [intOf]; omega
    · go_wp2
      go_ret
      exact ⟨rfl, n2, rfl⟩

end Go.Proofs.Qxb6608700aMods
