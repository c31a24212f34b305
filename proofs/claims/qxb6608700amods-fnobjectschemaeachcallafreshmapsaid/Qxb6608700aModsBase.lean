/-
  What the walks of this seat are told of the arguments, and the functions on the road that only count bytes.
-/
import Derived.Test.Qxb6608700aModsRows
import Derived.WalkKit
import Derived.WalkLawsBesides
namespace Go.Proofs.Qxb6608700aMods
open Go.RowKit

/-- A slice of 'len' properties: names N, values V. -/
def PropsAt (w : World) (ao : Option Addr) (len : Nat) (N V : Nat → ByteArray) : Prop :=
  len = 0 ∨ ∃ b off, ao = some ⟨b, off, none⟩ ∧ ∀ i, i < len → w.cell? ⟨b, off + i * 2, none⟩ = some (.string (N i)) ∧ w.cell? ⟨b, off + i * 2 + 1, none⟩ = some (.string (V i)) ∧ (N i).size ≤ maxLen ∧ (V i).size ≤ maxLen
/-- A slice of 'len' strings. -/
def StrsAt (w : World) (ao : Option Addr) (len : Nat) (S : Nat → ByteArray) : Prop :=
  len = 0 ∨ ∃ b off, ao = some ⟨b, off, none⟩ ∧ ∀ i, i < len → w.cell? ⟨b, off + i, none⟩ = some (.string (S i)) ∧ (S i).size ≤ maxLen

theorem PropsAt.at {w : World} {ao : Option Addr} {len : Nat} {N V : Nat → ByteArray} (h : PropsAt w ao len N V) {i : Nat} (hi : i < len) :
    ∃ b off, ao = some ⟨b, off, none⟩ ∧ w.cell? ⟨b, off + i * 2, none⟩ = some (.string (N i)) ∧ w.cell? ⟨b, off + i * 2 + 1, none⟩ = some (.string (V i)) ∧ (N i).size ≤ maxLen ∧ (V i).size ≤ maxLen := by
  rcases h with h | ⟨b, off, rfl, h⟩
  · omega
  · exact ⟨b, off, rfl, h i hi⟩
theorem StrsAt.at {w : World} {ao : Option Addr} {len : Nat} {S : Nat → ByteArray} (h : StrsAt w ao len S) {i : Nat} (hi : i < len) :
    ∃ b off, ao = some ⟨b, off, none⟩ ∧ w.cell? ⟨b, off + i, none⟩ = some (.string (S i)) ∧ (S i).size ≤ maxLen := by
  rcases h with h | ⟨b, off, rfl, h⟩
  · omega
  · exact ⟨b, off, rfl, h i hi⟩

/-- It returned a bool. -/
def RetBool (e : Ending) : Prop := ∃ t, e = .returned (.bool t)

theorem zzAdd_any (t n : Int) (h0 : 0 ≤ t) (h1 : 0 ≤ n) (w : World) :
    Calls Trym.prog 7 #[.int .i64 t, .int .i64 n] w fun e w' => (∃ k : Int, e = .returned (.int .i64 k) ∧ 0 ≤ k ∧ k ≤ 1048577) ∧ w' = w := by
  by_cases a : 1048576 < t
  · go_enter Trym.func7, Trym.ntmps7
    go_wp2
    go_ret
    exact ⟨⟨1048577, rfl, by omega, by omega⟩, rfl⟩
  · by_cases b : 1048576 < n
    · go_enter Trym.func7, Trym.ntmps7
      go_wp2
      go_ret
      exact ⟨⟨1048577, rfl, by omega, by omega⟩, rfl⟩
    · by_cases c : 1048576 < t + n
      · go_enter Trym.func7, Trym.ntmps7
        go_wp2
        go_ret
        exact ⟨⟨1048577, rfl, by omega, by omega⟩, rfl⟩
      · go_enter Trym.func7, Trym.ntmps7
        go_wp2
        go_ret
        exact ⟨⟨t + n, rfl, by omega, by omega⟩, rfl⟩

theorem zzAddWords_any (t n : Int) (h0 : 0 ≤ t) (h1 : 0 ≤ n) (w : World) :
    Calls Trym.prog 28 #[.int .i64 t, .int .i64 n] w fun e w' => (∃ k : Int, e = .returned (.int .i64 k) ∧ 0 ≤ k ∧ k ≤ 1048577) ∧ w' = w := by
  by_cases a : 131072 < n
  · go_enter Trym.func28, Trym.ntmps28
    go_wp2
    go_ret
    exact ⟨⟨1048577, rfl, by omega, by omega⟩, rfl⟩
  · go_enter Trym.func28, Trym.ntmps28
    go_wp2_with (go_at_call 7; refine (zzAdd_any _ _ (by omega) (by omega) _).mono ?_; rintro e w' ⟨⟨k, rfl, k0, k1⟩, rfl⟩)
    go_ret
    exact ⟨⟨_, rfl, by assumption, by assumption⟩, rfl⟩

set_option maxHeartbeats 400000 in
theorem zzPropBytes_any (ao : Option Addr) (len cap : Nat) (N V : Nat → ByteArray) (w : World) (hp : PropsAt w ao len N V) (hl : len ≤ 4096) :
    Calls Trym.prog 16 #[.slice ao len cap] w fun e w' => (∃ k : Int, e = .returned (.int .i64 k) ∧ 0 ≤ k ∧ k ≤ 1048577) ∧ w' = w := by
  go_enter Trym.func16, Trym.ntmps16
  go_wp2_with (go_at_call 28; refine (zzAddWords_any _ _ (by omega) (by omega) _).mono ?_; rintro e w' ⟨⟨k, rfl, k0, k1⟩, rfl⟩)
  go_loop [3, 4] (fun t i => ∃ (k : Nat) (c : Int), k ≤ len ∧ i = .int .i64 k ∧ t = .int .i64 c ∧ 0 ≤ c ∧ c ≤ 1048577) (fun _ i => len - (intOf i).toNat)
  case atStart => exact ⟨0, _, Nat.zero_le _, rfl, rfl, k0, k1⟩
  case round =>
    obtain ⟨m, c, hm, rfl, rfl, c0, c1⟩ := hrel
    by_cases hlt : m < len
    · obtain ⟨b, off, rfl, n0, v0, sn, sv⟩ := hp.at hlt
      by_cases hc : c ≤ 1048576
      · go_wp2_with fail
        refine (zzAdd_any _ _ (by omega) (by omega) _).mono ?_
        rintro e w' ⟨⟨k2, rfl, k20, k21⟩, rfl⟩
        go_wp2_with fail
        refine (zzAdd_any _ _ (by omega) (by omega) _).mono ?_
        rintro e w' ⟨⟨k3, rfl, k30, k31⟩, rfl⟩
        go_wp2_with fail
        go_round
        case rel => exact ⟨m + 1, k3, by omega, by go_num, rfl, k30, k31⟩
        case measure => simp [intOf]; omega
      · go_wp2
        go_ret
        exact ⟨⟨_, rfl, by omega, by omega⟩, rfl⟩
    · go_wp2
      go_ret
      exact ⟨⟨_, rfl, by omega, by omega⟩, rfl⟩

set_option maxHeartbeats 400000 in
theorem zzStringsBytes_any (ao : Option Addr) (len cap : Nat) (S : Nat → ByteArray) (w : World) (hp : StrsAt w ao len S) (hl : len ≤ 65536) :
    Calls Trym.prog 17 #[.slice ao len cap] w fun e w' => (∃ k : Int, e = .returned (.int .i64 k) ∧ 0 ≤ k ∧ k ≤ 1048577) ∧ w' = w := by
  go_enter Trym.func17, Trym.ntmps17
  go_wp2_with fail
  refine (zzAddWords_any _ _ (by omega) (by omega) _).mono ?_
  rintro e w' ⟨⟨k4, rfl, k40, k41⟩, rfl⟩
  go_wp2_with fail
  refine (zzAddWords_any _ _ (by omega) (by omega) _).mono ?_
  rintro e w' ⟨⟨k5, rfl, k50, k51⟩, rfl⟩
  go_wp2_with fail
  go_loop [3, 4] (fun t i => ∃ (k : Nat) (c : Int), k ≤ len ∧ i = .int .i64 k ∧ t = .int .i64 c ∧ 0 ≤ c ∧ c ≤ 1048577) (fun _ i => len - (intOf i).toNat)
  case atStart => exact ⟨0, _, Nat.zero_le _, rfl, rfl, k50, k51⟩
  case round =>
    obtain ⟨m, c, hm, rfl, rfl, c0, c1⟩ := hrel
    by_cases hlt : m < len
    · obtain ⟨b, off, rfl, n0, sn⟩ := hp.at hlt
      by_cases hc : c ≤ 1048576
      · go_wp2_with fail
        refine (zzAdd_any _ _ (by omega) (by omega) _).mono ?_
        rintro e w' ⟨⟨k2, rfl, k20, k21⟩, rfl⟩
        go_wp2_with fail
        go_round
        case rel => exact ⟨m + 1, k2, by omega, by go_num, rfl, k20, k21⟩
        case measure => simp [intOf]; omega
      · go_wp2
        go_ret
        exact ⟨⟨_, rfl, by omega, by omega⟩, rfl⟩
    · go_wp2
      go_ret
      exact ⟨⟨_, rfl, by omega, by omega⟩, rfl⟩

set_option maxHeartbeats 800000 in
theorem zzBytes_any (ao : Option Addr) (len cap : Nat) (N V : Nat → ByteArray) (bo : Option Addr) (len2 cap2 : Nat) (S : Nat → ByteArray) (ky vl : ByteArray) (w : World) (hp : PropsAt w ao len N V) (hs : StrsAt w bo len2 S)
    (hl : len ≤ maxLen) (hl2 : len2 ≤ maxLen) (hk : ky.size ≤ maxLen) (hv : vl.size ≤ maxLen) :
    Calls Trym.prog 15 #[.slice ao len cap, .slice bo len2 cap2, .string ky, .string vl] w fun e w' => RetBool e ∧ w' = w := by
  unfold maxLen at hl hl2 hk hv
  by_cases a1 : 1048576 < len
  · go_enter Trym.func15, Trym.ntmps15
    go_wp2
    go_ret
    exact ⟨⟨_, rfl⟩, rfl⟩
  go_enter Trym.func15, Trym.ntmps15
  go_wp2
  go_loop [9, 10] (fun t i => ∃ (k : Nat) (c : Int), k ≤ len ∧ i = .int .i64 k ∧ t = .int .i64 c ∧ 0 ≤ c ∧ c ≤ 1048576) (fun _ i => len - (intOf i).toNat)
  case atStart => exact ⟨0, len, Nat.zero_le _, rfl, rfl, by omega, by omega⟩
  case round =>
    obtain ⟨m, c, hm, rfl, rfl, c0, c1⟩ := hrel
    by_cases hlt : m < len
    · obtain ⟨b, off, rfl, n0, v0, sn, sv⟩ := hp.at hlt
      unfold maxLen at sn sv
      go_wp2
      all_goals first
        | (go_ret; exact ⟨⟨_, rfl⟩, rfl⟩)
        | (go_round
           case rel => exact ⟨m + 1, _, by omega, by go_num, rfl, by omega, by omega⟩
           case measure => simp [intOf]; omega)
    · by_cases a2 : 1048576 < len2
      · go_wp2
        go_ret
        exact ⟨⟨_, rfl⟩, rfl⟩
      by_cases a3 : 1048576 < c + len2
      · go_wp2
        go_ret
        exact ⟨⟨_, rfl⟩, rfl⟩
      go_wp2
      go_loop [9, 11] (fun t i => ∃ (k : Nat) (c : Int), k ≤ len2 ∧ i = .int .i64 k ∧ t = .int .i64 c ∧ 0 ≤ c ∧ c ≤ 1048576) (fun _ i => len2 - (intOf i).toNat)
      case atStart => exact ⟨0, _, Nat.zero_le _, rfl, rfl, by omega, by omega⟩
      case round =>
        obtain ⟨m2, c2, hm2, rfl, rfl, c20, c21⟩ := hrel
        by_cases hlt2 : m2 < len2
        · obtain ⟨b2, off2, rfl, s0, ss⟩ := hs.at hlt2
          unfold maxLen at ss
          go_wp2
          all_goals first
            | (go_ret; exact ⟨⟨_, rfl⟩, rfl⟩)
            | (go_round
               case rel => exact ⟨m2 + 1, _, by omega, by go_num, rfl, by omega, by omega⟩
               case measure => simp [intOf]; omega)
        · go_wp2
          all_goals (go_ret; exact ⟨⟨_, rfl⟩, rfl⟩)

end Go.Proofs.Qxb6608700aMods
