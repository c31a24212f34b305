/-
  The loops that make memory: zzCloneStrings, zzBuildProps; and zzDistinctNames.
-/
import Derived.Test.Qxb6608700aModsMaps
import Derived.Deep.OwnRows
import Derived.Deep.RegionHeld3
import Derived.WalkSpells
namespace Go.Proofs.Qxb6608700aMods
open Go.RowKit Go.Maps

theorem info9 : (Trym.prog.info? 9).map (fun i => (i.zero, i.size, i.bytes)) = some (some (.string ⟨#[]⟩), 1, 16) := by kernel_rfl

def filled (S : Nat → ByteArray) (k i : Nat) : Value := if i < k then .string (S i) else .string ⟨#[]⟩
theorem filled_next (S : Nat → ByteArray) (k i : Nat) : (if i = k then Value.string (S k) else filled S k i) = filled S (k + 1) i := by
  unfold filled
  by_cases h : i = k
  · subst h; simp
  · rw [if_neg h]
    by_cases h2 : i < k
    · rw [if_pos h2, if_pos (by omega)]
    · rw [if_neg h2, if_neg (by omega)]

/-- It returned a slice of those strings. -/
def RetStrs (e : Ending) (w : World) (len : Nat) (S : Nat → ByteArray) : Prop := ∃ bo c, e = .returned (.slice bo len c) ∧ StrsAt w bo len S

set_option maxHeartbeats 400000 in
theorem zzCloneStrings_any (ao : Option Addr) (len cap : Nat) (S : Nat → ByteArray) (w : World) (hp : StrsAt w ao len S) (hl : len ≤ 65536) (hn : ao = none → len = 0 ∧ cap = 0) :
    Calls Trym.prog 18 #[.slice ao len cap] w fun e w' => RetStrs e w' len S ∧ Below w.heap.size w w' := by
  cases ao with
  | none =>
    obtain ⟨rfl, rfl⟩ := hn rfl
    have hnil := fun w => Lib.run_eql_slice_nil (P := Trym.prog) w 36 9 none 0 0 0 0 Trym.underlying36
    go_enter Trym.func18, Trym.ntmps18
    go_wp2
    go_ret
    exact ⟨⟨_, _, rfl, .inl rfl⟩, Below.refl _ _⟩
  | some a =>
    have hnil := fun w => Lib.run_eql_slice_nil (P := Trym.prog) w 36 9 (some a) len cap 0 0 Trym.underlying36
    have hmk := run_make_row' (P := Trym.prog) 36 9 (.string ⟨#[]⟩) 16 Trym.underlying36 info9 rfl .i64 .i64 len (by omega) (by omega)
    go_enter Trym.func18, Trym.ntmps18
    go_wp2
    go_loopw [4] (fun i wr => ∃ k : Nat, k ≤ len ∧ i = .int .i64 k ∧ wr.rowIs w.heap.size 9 len (filled S k) ∧ Below w.heap.size w wr) (fun i _ => len - (intOf i).toNat)
    case atStart => exact ⟨0, by omega, rfl, (World.rowIs_made _ _ _ _).congr (fun i _ => by simp [filled]), (Below.refl _ _).alloc (Nat.le_refl _) _⟩
    case round =>
      obtain ⟨k, hk, rfl, hrow, hbel⟩ := hrel
      by_cases hlt : k < len
      · obtain ⟨b, off, e, c0, s0⟩ := hp.at hlt
        obtain rfl : a = ⟨b, off, none⟩ := by injection e
        have hb := cell_lt c0
        have c1 := (hbel.cell (p := ⟨b, off + k, none⟩) hb).trans c0
        have f0 := hrow.frozen k
        have r0 := hrow.cell hlt
        have HR : Hid (wr.rowIs w.heap.size 9 len (filled S k)) := hrow
        have HB : Hid _ := hbel
        clear c0 hb hrow hbel hp
        go_wp2
        go_roundw
        case rel => exact ⟨k + 1, by omega, by go_num, (HR.out.set k _).congr (fun i _ => filled_next S k i), HB.out.setCell (Nat.le_refl _) _⟩
        case measure => simp [intOf]; omega
      · have HR : Hid (wr.rowIs w.heap.size 9 len (filled S k)) := hrow
        have HB : Hid _ := hbel
        clear hrow hbel
        go_wp2
        go_ret
        refine ⟨⟨_, _, rfl, .inr ⟨w.heap.size, 0, rfl, fun i hi => ⟨?_, ?_⟩⟩⟩, HB.out⟩
        · have := HR.out.cell hi
          rw [filled, if_pos (by omega)] at this
          simpa using this
        · obtain ⟨_, _, _, _, s0⟩ := hp.at hi; exact s0

set_option maxHeartbeats 800000 in
theorem zzBuildProps_any (ao : Option Addr) (len cap : Nat) (N V : Nat → ByteArray) (w : World) (hp : PropsAt w ao len N V) (hl : len ≤ 4096) :
    Calls Trym.prog 19 #[.slice ao len cap] w fun e w' => e = .returned (.map (some w.heap.size)) ∧ MapAt w' w.heap.size len (built N V len) ∧ Below w.heap.size w w' := by
  go_enter Trym.func19, Trym.ntmps19
  go_wp2_with (go_at_call 35; refine (ZZnewObject_any _).mono ?_; rintro e w' ⟨rfl, rfl⟩)
  go_loopw [4] (fun i wr => ∃ k : Nat, k ≤ len ∧ i = .int .i64 k ∧ MapAt wr w.heap.size k (built N V k) ∧ Below w.heap.size w wr) (fun i _ => len - (intOf i).toNat)
  case atStart => exact ⟨0, by omega, rfl, World.ownsMap_made w Trym.prog 9 heldR, (Below.refl _ _).alloc (Nat.le_refl _) _⟩
  case round =>
    obtain ⟨k, hk, rfl, hm, hbel⟩ := hrel
    by_cases hlt : k < len
    · obtain ⟨b, off, rfl, c0, v0, s0, s1⟩ := hp.at hlt
      have hb := cell_lt c0
      have c1 := (hbel.cell (p := ⟨b, off + k * 2, none⟩) hb).trans c0
      have v1 := (hbel.cell (p := ⟨b, off + k * 2 + 1, none⟩) hb).trans v0
      have hki : (k : Int) < (len : Int) := by omega
      have hk0 : (0 : Int) ≤ (k : Int) := by omega
      have HM : Hid _ := hm
      have HB : Hid _ := hbel
      have hbn : b ≠ w.heap.size := Nat.ne_of_lt hb
      have HC : Hid _ := c1
      have HV : Hid _ := v1
      have HN : Hid _ := hbn
      clear c0 v0 hb hm hbel hp hbn
      go_wp2
      go_region_held3 (fun w' => w'.cell? ⟨b, off + k * 2, none⟩ = some (.string (N k)) ∧ w'.cell? ⟨b, off + k * 2 + 1, none⟩ = some (.string (V k))) (go_keep) ((go_at_call 21; refine (ZZsetText_any _ w.heap.size k (built N V k) _ _ (by exact HM.out) (by unfold maxLen; omega) s0).mono ?_; rintro e w' ⟨rfl, hm', hg'⟩; have c2 : w'.cell? ⟨b, off + k * 2, none⟩ = some (.string (N k)) := hg'.cell HC.out (fun e => HN.out (Option.some.inj e)); have v2 : w'.cell? ⟨b, off + k * 2 + 1, none⟩ = some (.string (V k)) := hg'.cell HV.out (fun e => HN.out (Option.some.inj e)); replace HM : Hid _ := hm'; replace HB : Hid _ := HB.out.drew.grown hg' HB.out.size (fun j e => by cases e; exact Nat.le_refl _); clear hm' hg'))
      all_goals go_wp2
      go_roundw
      case rel => exact ⟨k + 1, by omega, by go_num, HM.out, HB.out⟩
      case measure => simp [intOf]; omega
    · have hkl : k = len := by omega
      subst hkl
      have HM : Hid _ := hm
      have HB : Hid _ := hbel
      clear hm hbel
      go_wp2
      go_ret
      exact ⟨rfl, HM.out, HB.out⟩

/-- 'zzDistinctNames'. -/
theorem zzDistinctNames_any (ao : Option Addr) (len cap : Nat) (N V : Nat → ByteArray) (w : World) (hp : PropsAt w ao len N V) (hl : len ≤ 4096) :
    Calls Trym.prog 39 #[.slice ao len cap] w fun e w' => e = .returned (.int .i64 (cntD N len len)) ∧ ∃ n, w' = w.drewN n := by
  go_enter Trym.func39, Trym.ntmps39
  go_wp2
  go_loopw [3, 4] (fun c i wr => ∃ k : Nat, k ≤ len ∧ i = .int .i64 k ∧ c = .int .i64 (cntD N len k) ∧ ∃ n, wr = w.drewN n) (fun _ i _ => len - (intOf i).toNat)
  case atStart => exact ⟨0, by omega, rfl, rfl, 0, rfl⟩
  case round =>
    obtain ⟨k, hk, rfl, rfl, n, rfl⟩ := hrel
    have hc := cntD_le N len k
    by_cases hlt : k < len
    · go_wp2
      go_loopw [5, 6] (fun l j wr => ∃ m : Nat, k < m ∧ m ≤ len ∧ j = .int .i64 m ∧ l = .bool (!dup N k m) ∧ ∃ n, wr = w.drewN n) (fun _ j _ => len - (intOf j).toNat)
      case atStart => exact ⟨k + 1, by omega, by omega, by go_num, by rw [dup_start]; rfl, n, rfl⟩
      case round =>
        obtain ⟨m, hkm, hm, rfl, rfl, n2, rfl⟩ := hrel
        by_cases hlm : m < len
        · obtain ⟨b, off, rfl, c0, v0, s0, s1⟩ := hp.at hlt
          obtain ⟨b2, off2, e2, c1, v1, s2, s3⟩ := hp.at hlm
          obtain ⟨rfl, rfl⟩ : b = b2 ∧ off = off2 := by injection e2 with e2; injection e2 with e2 e3; exact ⟨e2, e3⟩
          clear e2
          have hki : (k : Int) < (len : Int) := by omega
          have hmi : (m : Int) < (len : Int) := by omega
          have HD : Hid (dup N k (m + 1) = (dup N k m || (N m).toList == (N k).toList)) := dup_succ N k m hkm
          cases heq : ((N m).toList == (N k).toList)
          · go_wp2
            go_quiet (fail)
            go_wp2
            go_roundw
            case rel => exact ⟨m + 1, by omega, by omega, by go_num, by rw [HD.out, heq]; simp, _, by first | rfl | (simp; rfl)⟩
            case measure => simp [intOf]; omega
          · go_wp2
            go_quiet (fail)
            go_wp2
            go_roundw
            case rel => exact ⟨m + 1, by omega, by omega, by go_num, by rw [HD.out, heq]; simp, _, by first | rfl | (simp; rfl)⟩
            case measure => simp [intOf]; omega
        · have hml : m = len := by omega
          subst hml
          have HC : Hid (cntD N m (k + 1) = cntD N m k + (if dup N k m then 0 else 1)) := rfl
          cases hd : dup N k m
          · rw [hd] at HC
            go_wp2
            go_roundw
            case rel => exact ⟨k + 1, by omega, by go_num, by rw [HC.out]; simp; done, _, rfl⟩
            case measure => simp [intOf]; omega
          · rw [hd] at HC
            go_wp2
            go_roundw
            case rel => exact ⟨k + 1, by omega, by go_num, by rw [HC.out]; simp; done, _, rfl⟩
            case measure => simp [intOf]; omega
    · have hkl : k = len := by omega
      subst hkl
      go_wp2
      go_ret
      exact ⟨rfl, n, rfl⟩

end Go.Proofs.Qxb6608700aMods
