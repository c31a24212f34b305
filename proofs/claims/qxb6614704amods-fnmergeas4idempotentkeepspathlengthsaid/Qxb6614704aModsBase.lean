/-
  What the walks of this seat are told of the arguments; the functions on the road that only measure them; the copies.
-/
import Derived.Test.Qxb6614704aModsRows
import Derived.WalkKit
import Derived.WalkLawsBesides
import Derived.WalkSpells
import Derived.Deep.OwnRows
namespace Go.Proofs.Qxb6614704aMods
open Go.RowKit

/-- the j-th number of a list -/
def nth (l : List Int) (j : Nat) : Int := l.getD j 0
/-- the numbers of l lie behind xo -/
def AsnsF (w : World) (xo : Option Addr) (l : List Int) : Prop := l.length = 0 ∨ ∃ b off, xo = some ⟨b, off, none⟩ ∧ ∀ j, j < l.length → w.cell? ⟨b, off + j, none⟩ = some (.int .u32 (nth l j))
/-- .. in a block from K on -/
def AsnsIn (w : World) (K : Nat) (xo : Option Addr) (l : List Int) : Prop := l.length = 0 ∨ ∃ b off, xo = some ⟨b, off, none⟩ ∧ K ≤ b ∧ ∀ j, j < l.length → w.cell? ⟨b, off + j, none⟩ = some (.int .u32 (nth l j))
theorem AsnsIn.plain {w : World} {K : Nat} {xo : Option Addr} {l : List Int} (h : AsnsIn w K xo l) : AsnsF w xo l := by
  rcases h with h | ⟨b, off, e, _, h⟩
  · exact .inl h
  · exact .inr ⟨b, off, e, h⟩
theorem AsnsIn.mono {w : World} {K K' : Nat} {xo : Option Addr} {l : List Int} (h : AsnsIn w K xo l) (hK : K' ≤ K) : AsnsIn w K' xo l := by
  rcases h with h | ⟨b, off, e, hb, h⟩
  · exact .inl h
  · exact .inr ⟨b, off, e, Nat.le_trans hK hb, h⟩
theorem AsnsIn.setCell {w : World} {K : Nat} {xo : Option Addr} {l : List Int} (h : AsnsIn w K xo l) {a : Addr} (ha : a.block < K) (v : Value) : AsnsIn (w.setCell a v) K xo l := by
  rcases h with h | ⟨b, off, e, hb, h⟩
  · exact .inl h
  · exact .inr ⟨b, off, e, hb, fun j hj => (World.cell?_of_block (Below.heap_setCell w a v b (by omega))).trans (h j hj)⟩
/-- a slice of n bytes -/
def U8At (w : World) (ao : Option Addr) (n : Nat) (ty : Nat → Int) : Prop := n = 0 ∨ ∃ b off, ao = some ⟨b, off, none⟩ ∧ ∀ i, i < n → w.cell? ⟨b, off + i, none⟩ = some (.int .u8 (ty i))
/-- a slice of n slices of numbers -/
def RowsAt (w : World) (ao : Option Addr) (n : Nat) (zs : Nat → List Int) : Prop :=
  n = 0 ∨ ∃ b off, ao = some ⟨b, off, none⟩ ∧ ∀ i, i < n → ∃ xo xc, w.cell? ⟨b, off + i, none⟩ = some (.slice xo (zs i).length xc) ∧ (zs i).length ≤ xc ∧ xc ≤ maxLen ∧ AsnsF w xo (zs i) ∧ (xo = none → xc = 0)
/-- small enough for every sum on the road -/
def Small (n : Nat) (zs : Nat → List Int) : Prop := n ≤ 1048576 ∧ ∀ i, i < n → (zs i).length ≤ 1048576

theorem U8At.at {w : World} {ao : Option Addr} {n : Nat} {ty : Nat → Int} (h : U8At w ao n ty) {i : Nat} (hi : i < n) : ∃ b off, ao = some ⟨b, off, none⟩ ∧ w.cell? ⟨b, off + i, none⟩ = some (.int .u8 (ty i)) := by
  rcases h with h | ⟨b, off, rfl, h⟩
  · omega
  · exact ⟨b, off, rfl, h i hi⟩
theorem RowsAt.at {w : World} {ao : Option Addr} {n : Nat} {zs : Nat → List Int} (h : RowsAt w ao n zs) {i : Nat} (hi : i < n) :
    ∃ b off xo xc, ao = some ⟨b, off, none⟩ ∧ w.cell? ⟨b, off + i, none⟩ = some (.slice xo (zs i).length xc) ∧ (zs i).length ≤ xc ∧ xc ≤ maxLen ∧ AsnsF w xo (zs i) ∧ (xo = none → xc = 0) := by
  rcases h with h | ⟨b, off, rfl, h⟩
  · omega
  · obtain ⟨xo, xc, h1, h2, h3, h4⟩ := h i hi
    exact ⟨b, off, xo, xc, rfl, h1, h2, h3, h4⟩
theorem AsnsF.at {w : World} {xo : Option Addr} {l : List Int} (h : AsnsF w xo l) {j : Nat} (hj : j < l.length) : ∃ b off, xo = some ⟨b, off, none⟩ ∧ w.cell? ⟨b, off + j, none⟩ = some (.int .u32 (nth l j)) := by
  rcases h with h | ⟨b, off, rfl, h⟩
  · omega
  · exact ⟨b, off, rfl, h j hj⟩
theorem cell_lt {w : World} {a : Addr} {v : Value} (h : w.cell? a = some v) : a.block < w.heap.size := World.block_lt_of_cell? w a h
theorem AsnsF.later {w w' : World} {xo : Option Addr} {l : List Int} {B : Nat} (h : AsnsF w xo l) (hB : w.heap.size ≤ B) (hb : Below B w w') : AsnsF w' xo l := by
  rcases h with h | ⟨b, off, e, h⟩
  · exact .inl h
  · exact .inr ⟨b, off, e, fun j hj => (hb.cell (p := ⟨b, _, none⟩) (Nat.lt_of_lt_of_le (cell_lt (h j hj)) hB)).trans (h j hj)⟩
theorem AsnsIn.later {w w' : World} {K : Nat} {xo : Option Addr} {l : List Int} {B : Nat} (h : AsnsIn w K xo l) (hB : w.heap.size ≤ B) (hb : Below B w w') : AsnsIn w' K xo l := by
  rcases h with h | ⟨b, off, e, hk, h⟩
  · exact .inl h
  · exact .inr ⟨b, off, e, hk, fun j hj => (hb.cell (p := ⟨b, _, none⟩) (Nat.lt_of_lt_of_le (cell_lt (h j hj)) hB)).trans (h j hj)⟩
theorem U8At.later {w w' : World} {ao : Option Addr} {n : Nat} {ty : Nat → Int} {B : Nat} (h : U8At w ao n ty) (hB : w.heap.size ≤ B) (hb : Below B w w') : U8At w' ao n ty := by
  rcases h with h | ⟨b, off, e, h⟩
  · exact .inl h
  · exact .inr ⟨b, off, e, fun j hj => (hb.cell (p := ⟨b, _, none⟩) (Nat.lt_of_lt_of_le (cell_lt (h j hj)) hB)).trans (h j hj)⟩
theorem RowsAt.later {w w' : World} {ao : Option Addr} {n : Nat} {zs : Nat → List Int} {B : Nat} (h : RowsAt w ao n zs) (hB : w.heap.size ≤ B) (hb : Below B w w') : RowsAt w' ao n zs := by
  rcases h with h | ⟨b, off, e, h⟩
  · exact .inl h
  · refine .inr ⟨b, off, e, fun i hi => ?_⟩
    obtain ⟨xo, xc, h1, h2, h3, h4, h5⟩ := h i hi
    exact ⟨xo, xc, (hb.cell (p := ⟨b, _, none⟩) (Nat.lt_of_lt_of_le (cell_lt h1) hB)).trans h1, h2, h3, h4.later hB hb, h5⟩

/-- It returned a bool; if that is true, p holds. -/
def RetBool (e : Ending) (p : Prop) : Prop := ∃ t, e = .returned (.bool t) ∧ (t = true → p)
/-- It returned a number; if that is at most the bound, p holds. -/
def RetInt (e : Ending) (p : Prop) : Prop := ∃ k : Int, e = .returned (.int .i64 k) ∧ (k ≤ 1048576 → p)

set_option maxHeartbeats 1600000 in
theorem zzBytes14_any (x0 x3 x5 : Bool) (x4 x6 : Int) (a1 a2 a7 a8 : Option Addr) (n1 n2 n7 n8 c1 c2 c7 c8 : Nat) (z2 z8 : Nat → List Int) (w : World)
    (h2 : RowsAt w a2 n2 z2) (h8 : RowsAt w a8 n8 z8) (b1 : n1 ≤ maxLen) (b2 : n2 ≤ maxLen) (b7 : n7 ≤ maxLen) (b8 : n8 ≤ maxLen) :
    Calls Trym.prog 14 #[.bool x0, .slice a1 n1 c1, .slice a2 n2 c2, .bool x3, .int .u32 x4, .bool x5, .int .u32 x6, .slice a7 n7 c7, .slice a8 n8 c8] w fun e w' => RetBool e (n1 ≤ 1048576 ∧ n2 ≤ 1048576 ∧ n7 ≤ 1048576 ∧ n8 ≤ 1048576) ∧ w' = w := by
  unfold maxLen at b1 b2 b7 b8
  by_cases y1 : 1048576 < n1
  · go_enter Trym.func14, Trym.ntmps14
    go_wp2
    go_ret
    exact ⟨⟨false, rfl, fun h => by cases h⟩, rfl⟩
  by_cases y2 : 1048576 < n2
  · go_enter Trym.func14, Trym.ntmps14
    go_wp2
    go_ret
    exact ⟨⟨false, rfl, fun h => by cases h⟩, rfl⟩
  by_cases y3 : 1048576 < n1 + n2
  · go_enter Trym.func14, Trym.ntmps14
    go_wp2
    go_ret
    exact ⟨⟨false, rfl, fun h => by cases h⟩, rfl⟩
  go_enter Trym.func14, Trym.ntmps14
  go_wp2
  go_loop [19, 20] (fun t i => ∃ (k : Nat) (c : Int), k ≤ n2 ∧ i = .int .i64 k ∧ t = .int .i64 c ∧ 0 ≤ c ∧ c ≤ 1048576) (fun _ i => n2 - (intOf i).toNat)
  case atStart => exact ⟨0, _, Nat.zero_le _, rfl, rfl, by omega, by omega⟩
  case round =>
    obtain ⟨m, d, hm, rfl, rfl, d0, d1⟩ := hrel
    by_cases hlt : m < n2
    · obtain ⟨b, off, xo, xc, rfl, s0, s1, s2, _⟩ := h2.at hlt
      unfold maxLen at s2
      go_wp2
      all_goals first
        | (go_ret; exact ⟨⟨false, rfl, fun h => by cases h⟩, rfl⟩)
        | (go_round
           case rel => exact ⟨m + 1, _, by omega, by go_num, rfl, by omega, by omega⟩
           case measure => simp [intOf]; omega)
    by_cases y4 : 1048576 < n7
    · go_wp2
      go_ret
      exact ⟨⟨false, rfl, fun h => by cases h⟩, rfl⟩
    by_cases y5 : 1048576 < d + n7
    · go_wp2
      go_ret
      exact ⟨⟨false, rfl, fun h => by cases h⟩, rfl⟩
    by_cases y6 : 1048576 < n8
    · go_wp2
      go_ret
      exact ⟨⟨false, rfl, fun h => by cases h⟩, rfl⟩
    by_cases y7 : 1048576 < d + n7 + n8
    · go_wp2
      go_ret
      exact ⟨⟨false, rfl, fun h => by cases h⟩, rfl⟩
    go_wp2
    go_loop [19, 21] (fun t i => ∃ (k : Nat) (c : Int), k ≤ n8 ∧ i = .int .i64 k ∧ t = .int .i64 c ∧ 0 ≤ c ∧ c ≤ 1048576) (fun _ i => n8 - (intOf i).toNat)
    case atStart => exact ⟨0, _, Nat.zero_le _, rfl, rfl, by omega, by omega⟩
    case round =>
      obtain ⟨m2, e, hm2, rfl, rfl, e0, e1⟩ := hrel
      by_cases hlt2 : m2 < n8
      · obtain ⟨b, off, xo, xc, rfl, s0, s1, s2, _⟩ := h8.at hlt2
        unfold maxLen at s2
        go_wp2
        all_goals first
          | (go_ret; exact ⟨⟨false, rfl, fun h => by cases h⟩, rfl⟩)
          | (go_round
             case rel => exact ⟨m2 + 1, _, by omega, by go_num, rfl, by omega, by omega⟩
             case measure => simp [intOf]; omega)
      · go_wp2
        go_ret
        exact ⟨⟨true, rfl, fun _ => ⟨by omega, by omega, by omega, by omega⟩⟩, rfl⟩

set_option maxHeartbeats 1600000 in
theorem zzBytes24_any (x0 x3 x5 : Bool) (x4 x6 : Int) (a1 a2 a7 a8 : Option Addr) (n1 n2 n7 n8 c1 c2 c7 c8 : Nat) (z2 z8 : Nat → List Int) (w : World)
    (h2 : RowsAt w a2 n2 z2) (h8 : RowsAt w a8 n8 z8) (b1 : n1 ≤ maxLen) (b2 : n2 ≤ maxLen) (b7 : n7 ≤ maxLen) (b8 : n8 ≤ maxLen) :
    Calls Trym.prog 24 #[.bool x0, .slice a1 n1 c1, .slice a2 n2 c2, .bool x3, .int .u32 x4, .bool x5, .int .u32 x6, .slice a7 n7 c7, .slice a8 n8 c8] w fun e w' => RetBool e (n1 ≤ 1048576 ∧ n2 ≤ 1048576 ∧ n7 ≤ 1048576 ∧ n8 ≤ 1048576) ∧ w' = w := by
  unfold maxLen at b1 b2 b7 b8
  by_cases y1 : 1048576 < n1
  · go_enter Trym.func24, Trym.ntmps24
    go_wp2
    go_ret
    exact ⟨⟨false, rfl, fun h => by cases h⟩, rfl⟩
  by_cases y2 : 1048576 < n2
  · go_enter Trym.func24, Trym.ntmps24
    go_wp2
    go_ret
    exact ⟨⟨false, rfl, fun h => by cases h⟩, rfl⟩
  by_cases y3 : 1048576 < n1 + n2
  · go_enter Trym.func24, Trym.ntmps24
    go_wp2
    go_ret
    exact ⟨⟨false, rfl, fun h => by cases h⟩, rfl⟩
  go_enter Trym.func24, Trym.ntmps24
  go_wp2
  go_loop [19, 20] (fun t i => ∃ (k : Nat) (c : Int), k ≤ n2 ∧ i = .int .i64 k ∧ t = .int .i64 c ∧ 0 ≤ c ∧ c ≤ 1048576) (fun _ i => n2 - (intOf i).toNat)
  case atStart => exact ⟨0, _, Nat.zero_le _, rfl, rfl, by omega, by omega⟩
  case round =>
    obtain ⟨m, d, hm, rfl, rfl, d0, d1⟩ := hrel
    by_cases hlt : m < n2
    · obtain ⟨b, off, xo, xc, rfl, s0, s1, s2, _⟩ := h2.at hlt
      unfold maxLen at s2
      go_wp2
      all_goals first
        | (go_ret; exact ⟨⟨false, rfl, fun h => by cases h⟩, rfl⟩)
        | (go_round
           case rel => exact ⟨m + 1, _, by omega, by go_num, rfl, by omega, by omega⟩
           case measure => simp [intOf]; omega)
    by_cases y4 : 1048576 < n7
    · go_wp2
      go_ret
      exact ⟨⟨false, rfl, fun h => by cases h⟩, rfl⟩
    by_cases y5 : 1048576 < d + n7
    · go_wp2
      go_ret
      exact ⟨⟨false, rfl, fun h => by cases h⟩, rfl⟩
    by_cases y6 : 1048576 < n8
    · go_wp2
      go_ret
      exact ⟨⟨false, rfl, fun h => by cases h⟩, rfl⟩
    by_cases y7 : 1048576 < d + n7 + n8
    · go_wp2
      go_ret
      exact ⟨⟨false, rfl, fun h => by cases h⟩, rfl⟩
    go_wp2
    go_loop [19, 21] (fun t i => ∃ (k : Nat) (c : Int), k ≤ n8 ∧ i = .int .i64 k ∧ t = .int .i64 c ∧ 0 ≤ c ∧ c ≤ 1048576) (fun _ i => n8 - (intOf i).toNat)
    case atStart => exact ⟨0, _, Nat.zero_le _, rfl, rfl, by omega, by omega⟩
    case round =>
      obtain ⟨m2, e, hm2, rfl, rfl, e0, e1⟩ := hrel
      by_cases hlt2 : m2 < n8
      · obtain ⟨b, off, xo, xc, rfl, s0, s1, s2, _⟩ := h8.at hlt2
        unfold maxLen at s2
        go_wp2
        all_goals first
          | (go_ret; exact ⟨⟨false, rfl, fun h => by cases h⟩, rfl⟩)
          | (go_round
             case rel => exact ⟨m2 + 1, _, by omega, by go_num, rfl, by omega, by omega⟩
             case measure => simp [intOf]; omega)
      · go_wp2
        go_ret
        exact ⟨⟨true, rfl, fun _ => ⟨by omega, by omega, by omega, by omega⟩⟩, rfl⟩

set_option maxHeartbeats 1600000 in
theorem b1MergeBytes_any (a1 a2 a7 a8 : Option Addr) (n1 n2 n7 n8 c1 c2 c7 c8 : Nat) (z2 z8 : Nat → List Int) (w : World)
    (h2 : RowsAt w a2 n2 z2) (h8 : RowsAt w a8 n8 z8) (b1 : n1 ≤ 1048576) (b2 : n2 ≤ 1048576) (b7 : n7 ≤ 1048576) (b8 : n8 ≤ 1048576) :
    Calls Trym.prog 15 #[.slice a1 n1 c1, .slice a2 n2 c2, .slice a7 n7 c7, .slice a8 n8 c8] w fun e w' => RetInt e (Small n2 z2 ∧ Small n8 z8) ∧ w' = w := by
  by_cases y2 : (1048576 : Int) < n1 + n7
  · go_enter Trym.func15, Trym.ntmps15
    go_wp2
    all_goals (go_ret; exact ⟨⟨_, rfl, fun h => by omega⟩, rfl⟩)
  by_cases y5 : (1048576 : Int) < n1 + n7 + 24 * n2
  · go_enter Trym.func15, Trym.ntmps15
    go_wp2
    go_ret
    exact ⟨⟨_, rfl, fun h => by omega⟩, rfl⟩
  by_cases y6 : (1048576 : Int) < n1 + n7 + 24 * n2 + 24 * n8
  · go_enter Trym.func15, Trym.ntmps15
    go_wp2
    go_ret
    exact ⟨⟨_, rfl, fun h => by omega⟩, rfl⟩
  go_enter Trym.func15, Trym.ntmps15
  go_wp2
  go_loop [9, 10] (fun t i => ∃ (k : Nat) (c : Int), k ≤ n2 ∧ i = .int .i64 k ∧ t = .int .i64 c ∧ 0 ≤ c ∧ c ≤ 1048576 ∧ Hid (∀ i, i < k → (z2 i).length ≤ 1048576)) (fun _ i => n2 - (intOf i).toNat)
  case atStart => exact ⟨0, _, Nat.zero_le _, rfl, rfl, by omega, by omega, fun i hi => by omega⟩
  case round =>
    obtain ⟨m, d, hm, rfl, rfl, d0, d1, H1⟩ := hrel
    by_cases hlt : m < n2
    · obtain ⟨b, off, xo, xc, rfl, s0, s1, s2, _⟩ := h2.at hlt
      unfold maxLen at s2
      by_cases q : 1048576 < (z2 m).length
      · go_wp2
        go_ret
        exact ⟨⟨_, rfl, fun h => by omega⟩, rfl⟩
      by_cases q2 : 1048576 < d + 4 * (z2 m).length
      · go_wp2
        go_ret
        exact ⟨⟨_, rfl, fun h => by omega⟩, rfl⟩
      go_wp2
      go_round
      case rel =>
        refine ⟨m + 1, _, by omega, by go_num, rfl, by omega, by omega, fun i hi => ?_⟩
        by_cases e : i = m
        · subst e; omega
        · exact H1.out i (by omega)
      case measure => simp [intOf]; omega
    obtain rfl : m = n2 := by omega
    go_wp2
    go_loop [9, 11] (fun t i => ∃ (k : Nat) (c : Int), k ≤ n8 ∧ i = .int .i64 k ∧ t = .int .i64 c ∧ 0 ≤ c ∧ c ≤ 1048576 ∧ Hid (∀ i, i < k → (z8 i).length ≤ 1048576)) (fun _ i => n8 - (intOf i).toNat)
    case atStart => exact ⟨0, _, Nat.zero_le _, rfl, rfl, by omega, by omega, fun i hi => by omega⟩
    case round =>
      obtain ⟨m2, d2, hm2, rfl, rfl, d20, d21, H2⟩ := hrel
      by_cases hlt2 : m2 < n8
      · obtain ⟨b, off, xo, xc, rfl, s0, s1, s2, _⟩ := h8.at hlt2
        unfold maxLen at s2
        by_cases q : 1048576 < (z8 m2).length
        · go_wp2
          go_ret
          exact ⟨⟨_, rfl, fun h => by omega⟩, rfl⟩
        by_cases q2 : 1048576 < d2 + 4 * (z8 m2).length
        · go_wp2
          go_ret
          exact ⟨⟨_, rfl, fun h => by omega⟩, rfl⟩
        go_wp2
        go_round
        case rel =>
          refine ⟨m2 + 1, _, by omega, by go_num, rfl, by omega, by omega, fun i hi => ?_⟩
          by_cases e : i = m2
          · subst e; omega
          · exact H2.out i (by omega)
        case measure => simp [intOf]; omega
      · obtain rfl : m2 = n8 := by omega
        go_wp2
        go_ret
        exact ⟨⟨_, rfl, fun _ => ⟨⟨b2, H1.out⟩, ⟨b8, H2.out⟩⟩⟩, rfl⟩

theorem info5 : (Trym.prog.info? 5).map (fun i => (i.zero, i.size, i.bytes)) = some (some (.int .u8 0), 1, 1) := by kernel_rfl
theorem info34 : (Trym.prog.info? 34).map (fun i => (i.zero, i.size, i.bytes)) = some (some (.int .u32 0), 1, 4) := by kernel_rfl
theorem info47 : (Trym.prog.info? 47).map (fun i => (i.zero, i.size, i.bytes)) = some (some (.slice none 0 0), 1, 24) := by kernel_rfl

/-- a row that is being filled: the first k cells are f's, the others z -/
def fill (f : Nat → Value) (z : Value) (k i : Nat) : Value := if i < k then f i else z
theorem fill_next (f : Nat → Value) (z : Value) (k i : Nat) : (if i = k then f k else fill f z k i) = fill f z (k + 1) i := by
  unfold fill
  by_cases h : i = k
  · subst h; simp
  · rw [if_neg h]
    by_cases h2 : i < k
    · rw [if_pos h2, if_pos (by omega)]
    · rw [if_neg h2, if_neg (by omega)]
theorem fill_start (f : Nat → Value) (z : Value) (i : Nat) : z = fill f z 0 i := by unfold fill; simp

/-- It returned a slice of n bytes ty (nil just if the argument was). -/
def RetU8 (e : Ending) (w : World) (ao : Option Addr) (n : Nat) (ty : Nat → Int) : Prop := ∃ bo c, e = .returned (.slice bo n c) ∧ U8At w bo n ty ∧ (bo = none ↔ ao = none)
/-- It returned a slice of those numbers. -/
def RetAsns (e : Ending) (w : World) (K : Nat) (l : List Int) : Prop := ∃ bo c, e = .returned (.slice bo l.length c) ∧ AsnsIn w K bo l ∧ l.length ≤ c ∧ c ≤ maxLen ∧ (bo = none → c = 0)
def RetRows (e : Ending) (w : World) (n : Nat) (zs : Nat → List Int) : Prop := ∃ bo c, e = .returned (.slice bo n c) ∧ RowsAt w bo n zs

set_option maxHeartbeats 800000 in
theorem b1CloneU8_any (ao : Option Addr) (n cap : Nat) (ty : Nat → Int) (w : World) (hp : U8At w ao n ty) (hl : n ≤ 1048576) (hn : ao = none → n = 0 ∧ cap = 0) :
    Calls Trym.prog 16 #[.slice ao n cap] w fun e w' => RetU8 e w' ao n ty ∧ Below w.heap.size w w' := by
  cases ao with
  | none =>
    obtain ⟨rfl, rfl⟩ := hn rfl
    have hnil := fun w => Lib.run_eql_slice_nil (P := Trym.prog) w 22 5 none 0 0 0 0 Trym.underlying22
    go_enter Trym.func16, Trym.ntmps16
    go_wp2
    go_ret
    exact ⟨⟨_, _, rfl, .inl rfl, by simp⟩, Below.refl _ _⟩
  | some a =>
    have hnil := fun w => Lib.run_eql_slice_nil (P := Trym.prog) w 22 5 (some a) n cap 0 0 Trym.underlying22
    have hmk := run_make_row' (P := Trym.prog) 22 5 (.int .u8 0) 1 Trym.underlying22 info5 rfl .i64 .i64 n (by omega) (by omega)
    go_enter Trym.func16, Trym.ntmps16
    go_wp2
    go_loopw [4] (fun i wr => ∃ k : Nat, k ≤ n ∧ i = .int .i64 k ∧ wr.rowIs w.heap.size 5 n (fill (fun i => .int .u8 (ty i)) (.int .u8 0) k) ∧ Below w.heap.size w wr) (fun i _ => n - (intOf i).toNat)
    case atStart => exact ⟨0, by omega, rfl, (World.rowIs_made _ _ _ _).congr (fun i _ => fill_start _ _ i), (Below.refl _ _).alloc (Nat.le_refl _) _⟩
    case round =>
      obtain ⟨k, hk, rfl, hrow, hbel⟩ := hrel
      by_cases hlt : k < n
      · obtain ⟨b, off, e, c0⟩ := hp.at hlt
        obtain rfl : a = ⟨b, off, none⟩ := by injection e
        have c1 := (hbel.cell (p := ⟨b, off + k, none⟩) (cell_lt c0)).trans c0
        have f0 := hrow.frozen k
        have r0 := hrow.cell hlt
        have HR : Hid (wr.rowIs w.heap.size 5 n (fill (fun i => .int .u8 (ty i)) (.int .u8 0) k)) := hrow
        have HB : Hid (Below w.heap.size w wr) := hbel
        clear c0 hrow hbel hp e
        go_wp2
        go_roundw
        case rel => exact ⟨k + 1, by omega, by go_num, (HR.out.set k _).congr (fun i _ => fill_next (fun i => .int .u8 (ty i)) (.int .u8 0) k i), HB.out.setCell (Nat.le_refl _) _⟩
        case measure => simp [intOf]; omega
      · have HR : Hid (wr.rowIs w.heap.size 5 n (fill (fun i => .int .u8 (ty i)) (.int .u8 0) k)) := hrow
        have HB : Hid (Below w.heap.size w wr) := hbel
        clear hrow hbel
        go_wp2
        go_ret
        refine ⟨⟨_, _, rfl, .inr ⟨w.heap.size, 0, rfl, fun i hi => ?_⟩, by simp⟩, HB.out⟩
        have := HR.out.cell hi
        rw [fill, if_pos (by omega)] at this
        simpa using this

set_option maxRecDepth 100000 in
set_option maxHeartbeats 800000 in
theorem b1CloneU32_any (xo : Option Addr) (l : List Int) (cap : Nat) (w : World) (hp : AsnsF w xo l) (hl : l.length ≤ 1048576) (hn : xo = none → l.length = 0 ∧ cap = 0) :
    Calls Trym.prog 31 #[.slice xo l.length cap] w fun e w' => RetAsns e w' w.heap.size l ∧ Below w.heap.size w w' := by
  cases xo with
  | none =>
    obtain ⟨h0, rfl⟩ := hn rfl
    obtain rfl : l = [] := List.eq_nil_of_length_eq_zero h0
    have hnil := fun w => Lib.run_eql_slice_nil (P := Trym.prog) w 47 34 none 0 0 0 0 Trym.underlying47
    go_enter Trym.func31, Trym.ntmps31
    go_wp2
    go_ret
    exact ⟨⟨_, _, rfl, .inl rfl, Nat.zero_le _, Nat.zero_le _, fun _ => rfl⟩, Below.refl _ _⟩
  | some a =>
    have hnil := fun w => Lib.run_eql_slice_nil (P := Trym.prog) w 47 34 (some a) l.length cap 0 0 Trym.underlying47
    have hmk := run_make_row' (P := Trym.prog) 47 34 (.int .u32 0) 4 Trym.underlying47 info34 rfl .i64 .i64 l.length (by omega) (by omega)
    obtain ⟨n, en⟩ : ∃ n, l.length = n := ⟨_, rfl⟩
    have HEN : Hid (l.length = n) := en
    rw [en] at hmk hl hnil ⊢
    go_enter Trym.func31, Trym.ntmps31
    clear en
    go_wp2
    go_loopw [4] (fun i wr => ∃ k : Nat, k ≤ n ∧ i = .int .i64 k ∧ wr.rowIs w.heap.size 34 n (fill (fun i => .int .u32 (nth l i)) (.int .u32 0) k) ∧ Below w.heap.size w wr) (fun i _ => n - (intOf i).toNat)
    case atStart => exact ⟨0, by omega, rfl, (World.rowIs_made _ _ _ _).congr (fun i _ => fill_start _ _ i), (Below.refl _ _).alloc (Nat.le_refl _) _⟩
    case round =>
      obtain ⟨k, hk, rfl, hrow, hbel⟩ := hrel
      by_cases hlt : k < n
      · obtain ⟨b, off, e, c0⟩ := hp.at (j := k) (by rw [HEN.out]; exact hlt)
        obtain rfl : a = ⟨b, off, none⟩ := by injection e
        have c1 := (hbel.cell (p := ⟨b, off + k, none⟩) (cell_lt c0)).trans c0
        have f0 := hrow.frozen k
        have r0 := hrow.cell hlt
        have HR : Hid (wr.rowIs w.heap.size 34 n (fill (fun i => .int .u32 (nth l i)) (.int .u32 0) k)) := hrow
        have HB : Hid (Below w.heap.size w wr) := hbel
        clear c0 hrow hbel hp e
        go_wp2
        go_roundw
        case rel => exact ⟨k + 1, by omega, by go_num, (HR.out.set k _).congr (fun i _ => fill_next (fun i => .int .u32 (nth l i)) (.int .u32 0) k i), HB.out.setCell (Nat.le_refl _) _⟩
        case measure => simp [intOf]; omega
      · have HR : Hid (wr.rowIs w.heap.size 34 n (fill (fun i => .int .u32 (nth l i)) (.int .u32 0) k)) := hrow
        have HB : Hid (Below w.heap.size w wr) := hbel
        clear hrow hbel
        go_wp2
        go_ret
        refine ⟨⟨some ⟨w.heap.size, 0, none⟩, n, ?_, .inr ⟨w.heap.size, 0, rfl, Nat.le_refl _, fun i hi => ?_⟩, ?_, ?_, fun h => by cases h⟩, HB.out⟩
        · rw [HEN.out]; rfl
        · have hi' : i < n := by rw [← HEN.out]; exact hi
          have := HR.out.cell hi'
          rw [fill, if_pos (by omega)] at this
          simpa using this
        · rw [HEN.out]; exact Nat.le_refl _
        · unfold maxLen; omega

end Go.Proofs.Qxb6614704aMods
