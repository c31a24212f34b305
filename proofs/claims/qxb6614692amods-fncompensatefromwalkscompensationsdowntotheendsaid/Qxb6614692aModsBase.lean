/-
  What the walks of this seat are told of the arguments; the two functions on the road that only measure them.
-/
import Derived.Test.Qxb6614692aModsRows
import Derived.WalkKit
import Derived.WalkLawsBesides
import Derived.BigQuiet
import Derived.Deep.QuietTactic
namespace Go.Proofs.Qxb6614692aMods
open Go.RowKit

/-- A slice of 'len' strings. -/
def StrsAt (w : World) (ao : Option Addr) (len : Nat) (S : Nat → ByteArray) : Prop :=
  len = 0 ∨ ∃ b off, ao = some ⟨b, off, none⟩ ∧ ∀ i, i < len → w.cell? ⟨b, off + i, none⟩ = some (.string (S i)) ∧ (S i).size ≤ maxLen
/-- A slice of 'len' ints. -/
def IntsAt (w : World) (ao : Option Addr) (len : Nat) (A : Nat → Int) : Prop :=
  len = 0 ∨ ∃ b off, ao = some ⟨b, off, none⟩ ∧ ∀ i, i < len → w.cell? ⟨b, off + i, none⟩ = some (.int .i64 (A i))
theorem StrsAt.at {w : World} {ao : Option Addr} {len : Nat} {S : Nat → ByteArray} (h : StrsAt w ao len S) {i : Nat} (hi : i < len) :
    ∃ b off, ao = some ⟨b, off, none⟩ ∧ w.cell? ⟨b, off + i, none⟩ = some (.string (S i)) ∧ (S i).size ≤ maxLen := by
  rcases h with h | ⟨b, off, rfl, h⟩
  · omega
  · exact ⟨b, off, rfl, h i hi⟩
theorem IntsAt.at {w : World} {ao : Option Addr} {len : Nat} {A : Nat → Int} (h : IntsAt w ao len A) {i : Nat} (hi : i < len) :
    ∃ b off, ao = some ⟨b, off, none⟩ ∧ w.cell? ⟨b, off + i, none⟩ = some (.int .i64 (A i)) := by
  rcases h with h | ⟨b, off, rfl, h⟩
  · omega
  · exact ⟨b, off, rfl, h i hi⟩

/-- It returned a bool; if that is true, p holds. -/
def RetBool (e : Ending) (p : Prop) : Prop := ∃ t, e = .returned (.bool t) ∧ (t = true → p)

set_option maxHeartbeats 1600000 in
theorem zzBytes_any (a0 a1 a2 a3 a4 : Option Addr) (l0 l1 l2 l3 l4 c0 c1 c2 c3 c4 : Nat) (S0 S1 S2 S3 : Nat → ByteArray) (nx fr : Int) (at_ : Int) (w : World)
    (h0 : StrsAt w a0 l0 S0) (h1 : StrsAt w a1 l1 S1) (h2 : StrsAt w a2 l2 S2) (h3 : StrsAt w a3 l3 S3)
    (b0 : l0 ≤ maxLen) (b1 : l1 ≤ maxLen) (b2 : l2 ≤ maxLen) (b3 : l3 ≤ maxLen) (b4 : l4 ≤ maxLen) :
    Calls Trym.prog 12 #[.slice a0 l0 c0, .slice a1 l1 c1, .slice a2 l2 c2, .slice a3 l3 c3, .slice a4 l4 c4, .int .i64 nx, .int .i64 fr, .int .i64 at_] w fun e w' => RetBool e True ∧ w' = w := by
  unfold maxLen at b0 b1 b2 b3 b4
  by_cases x0 : 1048576 < l0
  · go_enter Trym.func12, Trym.ntmps12
    go_wp2
    go_ret
    exact ⟨⟨_, rfl, fun _ => trivial⟩, rfl⟩
  go_enter Trym.func12, Trym.ntmps12
  go_wp2
  go_loop [17, 18] (fun t i => ∃ (k : Nat) (c : Int), k ≤ l0 ∧ i = .int .i64 k ∧ t = .int .i64 c ∧ 0 ≤ c ∧ c ≤ 1048576) (fun _ i => l0 - (intOf i).toNat)
  case atStart => exact ⟨0, _, Nat.zero_le _, rfl, rfl, by omega, by omega⟩
  case round =>
    obtain ⟨m0, d0, hm0, rfl, rfl, d00, d01⟩ := hrel
    by_cases hlt0 : m0 < l0
    · obtain ⟨b, off, rfl, s0, ss⟩ := h0.at hlt0
      unfold maxLen at ss
      go_wp2
      all_goals first
        | (go_ret; exact ⟨⟨_, rfl, fun _ => trivial⟩, rfl⟩)
        | (go_round
           case rel => exact ⟨m0 + 1, _, by omega, by go_num, rfl, by omega, by omega⟩
           case measure => simp [intOf]; omega)
    · by_cases x1 : 1048576 < l1
      · go_wp2
        go_ret
        exact ⟨⟨_, rfl, fun _ => trivial⟩, rfl⟩
      by_cases y1 : 1048576 < d0 + l1
      · go_wp2
        go_ret
        exact ⟨⟨_, rfl, fun _ => trivial⟩, rfl⟩
      go_wp2
      go_loop [17, 19] (fun t i => ∃ (k : Nat) (c : Int), k ≤ l1 ∧ i = .int .i64 k ∧ t = .int .i64 c ∧ 0 ≤ c ∧ c ≤ 1048576) (fun _ i => l1 - (intOf i).toNat)
      case atStart => exact ⟨0, _, Nat.zero_le _, rfl, rfl, by omega, by omega⟩
      case round =>
        obtain ⟨m1, d1, hm1, rfl, rfl, d10, d11⟩ := hrel
        by_cases hlt1 : m1 < l1
        · obtain ⟨b, off, rfl, s0, ss⟩ := h1.at hlt1
          unfold maxLen at ss
          go_wp2
          all_goals first
            | (go_ret; exact ⟨⟨_, rfl, fun _ => trivial⟩, rfl⟩)
            | (go_round
               case rel => exact ⟨m1 + 1, _, by omega, by go_num, rfl, by omega, by omega⟩
               case measure => simp [intOf]; omega)
        · by_cases x2 : 1048576 < l2
          · go_wp2
            go_ret
            exact ⟨⟨_, rfl, fun _ => trivial⟩, rfl⟩
          by_cases y2 : 1048576 < d1 + l2
          · go_wp2
            go_ret
            exact ⟨⟨_, rfl, fun _ => trivial⟩, rfl⟩
          go_wp2
          go_loop [17, 20] (fun t i => ∃ (k : Nat) (c : Int), k ≤ l2 ∧ i = .int .i64 k ∧ t = .int .i64 c ∧ 0 ≤ c ∧ c ≤ 1048576) (fun _ i => l2 - (intOf i).toNat)
          case atStart => exact ⟨0, _, Nat.zero_le _, rfl, rfl, by omega, by omega⟩
          case round =>
            obtain ⟨m2, d2, hm2, rfl, rfl, d20, d21⟩ := hrel
            by_cases hlt2 : m2 < l2
            · obtain ⟨b, off, rfl, s0, ss⟩ := h2.at hlt2
              unfold maxLen at ss
              go_wp2
              all_goals first
                | (go_ret; exact ⟨⟨_, rfl, fun _ => trivial⟩, rfl⟩)
                | (go_round
                   case rel => exact ⟨m2 + 1, _, by omega, by go_num, rfl, by omega, by omega⟩
                   case measure => simp [intOf]; omega)
            · by_cases x3 : 1048576 < l3
              · go_wp2
                go_ret
                exact ⟨⟨_, rfl, fun _ => trivial⟩, rfl⟩
              by_cases y3 : 1048576 < d2 + l3
              · go_wp2
                go_ret
                exact ⟨⟨_, rfl, fun _ => trivial⟩, rfl⟩
              go_wp2
              go_loop [17, 21] (fun t i => ∃ (k : Nat) (c : Int), k ≤ l3 ∧ i = .int .i64 k ∧ t = .int .i64 c ∧ 0 ≤ c ∧ c ≤ 1048576) (fun _ i => l3 - (intOf i).toNat)
              case atStart => exact ⟨0, _, Nat.zero_le _, rfl, rfl, by omega, by omega⟩
              case round =>
                obtain ⟨m3, d3, hm3, rfl, rfl, d30, d31⟩ := hrel
                by_cases hlt3 : m3 < l3
                · obtain ⟨b, off, rfl, s0, ss⟩ := h3.at hlt3
                  unfold maxLen at ss
                  go_wp2
                  all_goals first
                    | (go_ret; exact ⟨⟨_, rfl, fun _ => trivial⟩, rfl⟩)
                    | (go_round
                       case rel => exact ⟨m3 + 1, _, by omega, by go_num, rfl, by omega, by omega⟩
                       case measure => simp [intOf]; omega)
                · go_wp2
                  all_goals (go_ret; exact ⟨⟨_, rfl, fun _ => trivial⟩, rfl⟩)

theorem beqNat {a b : Nat} (h : a ≠ b) : ((a : Int) != (b : Int)) = true := by rw [bne_iff_ne]; omega
theorem bneNat (a : Nat) : ((a : Int) != (a : Int)) = false := by simp

set_option maxHeartbeats 1600000 in
theorem zzB1StepsFit_any (a0 a1 a2 a3 a4 : Option Addr) (l0 l1 l2 l3 l4 c0 c1 c2 c3 c4 : Nat) (S0 S1 S2 S3 : Nat → ByteArray) (w : World)
    (h0 : StrsAt w a0 l0 S0) (h1 : StrsAt w a1 l1 S1) (h2 : StrsAt w a2 l2 S2) (h3 : StrsAt w a3 l3 S3) (b0 : l0 ≤ 4096) :
    Calls Trym.prog 13 #[.slice a0 l0 c0, .slice a1 l1 c1, .slice a2 l2 c2, .slice a3 l3 c3, .slice a4 l4 c4] w fun e w' => RetBool e (l1 = l0 ∧ l2 = l0 ∧ l3 = l0 ∧ l4 = l0) ∧ ∃ n, w' = w.drewN n := by
  by_cases e1 : l1 = l0
  · subst e1
    have q1 := bneNat l1
    by_cases e2 : l2 = l1
    · subst e2
      by_cases e3 : l3 = l2
      · subst e3
        by_cases e4 : l4 = l3
        · subst e4
          go_enter Trym.func13, Trym.ntmps13
          go_wp2
          go_loopw [12, 13] (fun t i wr => ∃ (k : Nat) (c : Int), k ≤ l4 ∧ i = .int .i64 k ∧ t = .int .i64 c ∧ ∃ n, wr = w.drewN n) (fun _ i _ => l4 - (intOf i).toNat)
          case atStart => exact ⟨0, _, Nat.zero_le _, rfl, rfl, 0, rfl⟩
          case round =>
            obtain ⟨k, c, hk, rfl, rfl, n, rfl⟩ := hrel
            by_cases hlt : k < l4
            · obtain ⟨p0, o0, rfl, s0, z0⟩ := h0.at hlt
              obtain ⟨p1, o1, rfl, s1, z1⟩ := h1.at hlt
              obtain ⟨p2, o2, rfl, s2, z2⟩ := h2.at hlt
              obtain ⟨p3, o3, rfl, s3, z3⟩ := h3.at hlt
              have hki : (k : Int) < (l4 : Int) := by omega
              go_wp2
              go_quiet (fail)
              go_wp2
              · go_ret
                exact ⟨⟨_, rfl, fun _ => by simp⟩, _, rfl⟩
              · go_roundw
                case rel => exact ⟨k + 1, _, by omega, by go_num, rfl, _, rfl⟩
                case measure => simp [intOf]; omega
            · go_wp2
              go_ret
              exact ⟨⟨_, rfl, fun _ => by simp⟩, n, rfl⟩
        · have q4 := beqNat e4
          go_enter Trym.func13, Trym.ntmps13
          go_wp2
          go_ret
          exact ⟨⟨false, rfl, fun h => by cases h⟩, 0, rfl⟩
      · have q3 := beqNat e3
        go_enter Trym.func13, Trym.ntmps13
        go_wp2
        go_ret
        exact ⟨⟨false, rfl, fun h => by cases h⟩, 0, rfl⟩
    · have q2 := beqNat e2
      go_enter Trym.func13, Trym.ntmps13
      go_wp2
      go_ret
      exact ⟨⟨false, rfl, fun h => by cases h⟩, 0, rfl⟩
  · have q1 := beqNat e1
    go_enter Trym.func13, Trym.ntmps13
    go_wp2
    go_ret
    exact ⟨⟨false, rfl, fun h => by cases h⟩, 0, rfl⟩

end Go.Proofs.Qxb6614692aMods
