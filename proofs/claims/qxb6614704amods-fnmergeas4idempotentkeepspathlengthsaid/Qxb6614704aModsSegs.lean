/-
  The copy of a list of lists; a path in memory; how long a path counts.
-/
import Derived.Test.Qxb6614704aModsBase
namespace Go.Proofs.Qxb6614704aMods
open Go.RowKit

set_option maxHeartbeats 800000 in
theorem b1CloneU32s_any (ao : Option Addr) (n cap : Nat) (zs : Nat → List Int) (w : World) (hp : RowsAt w ao n zs) (hs : Small n zs) (hn : ao = none → n = 0 ∧ cap = 0) :
    Calls Trym.prog 17 #[.slice ao n cap] w fun e w' => RetRows e w' n zs ∧ Below w.heap.size w w' := by
  have hl := hs.1
  cases ao with
  | none =>
    obtain ⟨rfl, rfl⟩ := hn rfl
    have hnil := fun w => Lib.run_eql_slice_nil (P := Trym.prog) w 33 47 none 0 0 0 0 Trym.underlying33
    go_enter Trym.func17, Trym.ntmps17
    go_wp2
    go_ret
    exact ⟨⟨_, _, rfl, .inl rfl⟩, Below.refl _ _⟩
  | some a =>
    have hnil := fun w => Lib.run_eql_slice_nil (P := Trym.prog) w 33 47 (some a) n cap 0 0 Trym.underlying33
    have hmk := run_make_row' (P := Trym.prog) 33 47 (.slice none 0 0) 24 Trym.underlying33 info47 rfl .i64 .i64 n (by omega) (by omega)
    have HS : Hid (Small n zs) := hs
    clear hs hn
    go_enter Trym.func17, Trym.ntmps17
    go_wp2
    go_loopw [4] (fun i wr => ∃ (k : Nat) (V : Nat → Value), k ≤ n ∧ i = .int .i64 k ∧ wr.rowIs w.heap.size 47 n (fill V (.slice none 0 0) k) ∧ (∀ i, i < k → ∃ xo xc, V i = .slice xo (zs i).length xc ∧ (zs i).length ≤ xc ∧ xc ≤ maxLen ∧ AsnsIn wr (w.heap.size + 1) xo (zs i) ∧ (xo = none → xc = 0)) ∧ Below w.heap.size w wr) (fun i _ => n - (intOf i).toNat)
    case atStart => exact ⟨0, fun _ => undef, by omega, rfl, (World.rowIs_made _ _ _ _).congr (fun i _ => fill_start _ _ i), fun i hi => by omega, (Below.refl _ _).alloc (Nat.le_refl _) _⟩
    case round =>
      obtain ⟨k, V, hk, rfl, hrow, hV, hbel⟩ := hrel
      by_cases hlt : k < n
      · obtain ⟨b, off, xo, xc, e, c0, c2, c3, c4, c5⟩ := hp.at hlt
        have HXC : Hid (xo = none → (zs k).length = 0 ∧ xc = 0) := by
          intro h
          rcases c4 with h0 | ⟨_, _, h0, _⟩
          · exact ⟨h0, c5 h⟩
          · rw [h] at h0; cases h0
        obtain rfl : a = ⟨b, off, none⟩ := by injection e
        have c1 := (hbel.cell (p := ⟨b, off + k, none⟩) (cell_lt c0)).trans c0
        have HA : Hid (AsnsF wr xo (zs k)) := c4.later (Nat.le_refl _) hbel
        have HR : Hid (wr.rowIs w.heap.size 47 n (fill V (.slice none 0 0) k)) := hrow
        have HV : Hid (∀ i, i < k → ∃ xo xc, V i = .slice xo (zs i).length xc ∧ (zs i).length ≤ xc ∧ xc ≤ maxLen ∧ AsnsIn wr (w.heap.size + 1) xo (zs i) ∧ (xo = none → xc = 0)) := hV
        have HB : Hid (Below w.heap.size w wr) := hbel
        have hwr : w.heap.size < wr.heap.size := hrow.lt
        have hsz := HS.out.2 k hlt
        clear c0 c4 c5 hrow hV hbel hp e
        go_wp2_with fail
        refine (b1CloneU32_any _ _ _ _ HA.out hsz HXC.out).mono ?_
        rintro e w1 ⟨⟨bo, c, rfl, ha1, hc1, hc2, hc3⟩, hb1⟩
        have R1 : Hid (w1.rowIs w.heap.size 47 n (fill V (.slice none 0 0) k)) := HR.out.of_block (hb1.block _ hwr)
        have f0 := R1.out.frozen k
        have r0 := R1.out.cell hlt
        have HA1 : Hid (AsnsIn w1 wr.heap.size bo (zs k)) := ha1
        have HB1 : Hid (Below wr.heap.size wr w1) := hb1
        clear ha1 hb1
        go_wp2_with fail
        go_roundw
        case rel =>
          refine ⟨k + 1, fun i => if i = k then .slice bo (zs k).length c else V i, by omega, by go_num, ?_, ?_, (HB.out.trans (HB1.out.mono HB.out.size)).setCell (Nat.le_refl _) _⟩
          · refine (R1.out.set k _).congr (fun i _ => ?_)
            unfold fill
            by_cases h1 : i = k
            · subst h1; simp
            · by_cases h2 : i < k
              · simp [h1, h2, Nat.lt_succ_of_lt h2]
              · have : ¬ i < k + 1 := by omega
                simp [h1, h2, this]
          · intro i hi
            by_cases h1 : i = k
            · subst h1
              exact ⟨bo, c, by simp, hc1, hc2, (HA1.out.mono hwr).setCell (Nat.lt_succ_self _) _, hc3⟩
            · obtain ⟨yo, yc, e1, e2, e3, e4, e5⟩ := HV.out i (by omega)
              exact ⟨yo, yc, by simp [h1, e1], e2, e3, (e4.later (Nat.le_refl _) HB1.out).setCell (Nat.lt_succ_self _) _, e5⟩
        case measure => simp [intOf]; omega
      · obtain rfl : k = n := by omega
        have HR : Hid (wr.rowIs w.heap.size 47 k (fill V (.slice none 0 0) k)) := hrow
        have HV : Hid (∀ i, i < k → ∃ xo xc, V i = .slice xo (zs i).length xc ∧ (zs i).length ≤ xc ∧ xc ≤ maxLen ∧ AsnsIn wr (w.heap.size + 1) xo (zs i) ∧ (xo = none → xc = 0)) := hV
        have HB : Hid (Below w.heap.size w wr) := hbel
        clear hrow hV hbel
        go_wp2
        go_ret
        refine ⟨⟨_, _, rfl, .inr ⟨w.heap.size, 0, rfl, fun i hi => ?_⟩⟩, HB.out⟩
        obtain ⟨yo, yc, e1, e2, e3, e4, e5⟩ := HV.out i hi
        have := HR.out.cell hi
        rw [fill, if_pos hi, e1] at this
        exact ⟨yo, yc, by simpa using this, e2, e3, e4.plain, e5⟩

/-! ### a path in memory -/
def PathAt (w : World) (ao : Option Addr) (n : Nat) (ty : Nat → Int) (zs : Nat → List Int) : Prop :=
  n = 0 ∨ ∃ b off, ao = some ⟨b, off, none⟩ ∧ ∀ i, i < n → w.cell? ⟨b, off + i * 2, none⟩ = some (.int .u8 (ty i)) ∧ ∃ xo xc, w.cell? ⟨b, off + i * 2 + 1, none⟩ = some (.slice xo (zs i).length xc) ∧ (zs i).length ≤ xc ∧ xc ≤ maxLen ∧ AsnsF w xo (zs i) ∧ (xo = none → xc = 0)
theorem PathAt.at {w : World} {ao : Option Addr} {n : Nat} {ty : Nat → Int} {zs : Nat → List Int} (h : PathAt w ao n ty zs) {i : Nat} (hi : i < n) :
    ∃ b off xo xc, ao = some ⟨b, off, none⟩ ∧ w.cell? ⟨b, off + i * 2, none⟩ = some (.int .u8 (ty i)) ∧ w.cell? ⟨b, off + i * 2 + 1, none⟩ = some (.slice xo (zs i).length xc) ∧ (zs i).length ≤ xc ∧ xc ≤ maxLen ∧ AsnsF w xo (zs i) ∧ (xo = none → xc = 0) := by
  rcases h with h | ⟨b, off, rfl, h⟩
  · omega
  · obtain ⟨h0, xo, xc, h1, h2, h3, h4⟩ := h i hi
    exact ⟨b, off, xo, xc, rfl, h0, h1, h2, h3, h4⟩
theorem PathAt.later {w w' : World} {ao : Option Addr} {n : Nat} {ty : Nat → Int} {zs : Nat → List Int} {B : Nat} (h : PathAt w ao n ty zs) (hB : w.heap.size ≤ B) (hb : Below B w w') : PathAt w' ao n ty zs := by
  rcases h with h | ⟨b, off, e, h⟩
  · exact .inl h
  · refine .inr ⟨b, off, e, fun i hi => ?_⟩
    obtain ⟨h0, xo, xc, h1, h2, h3, h4⟩ := h i hi
    exact ⟨(hb.cell (p := ⟨b, _, none⟩) (Nat.lt_of_lt_of_le (cell_lt h0) hB)).trans h0, xo, xc, (hb.cell (p := ⟨b, _, none⟩) (Nat.lt_of_lt_of_le (cell_lt h1) hB)).trans h1, h2, h3, h4.1.later hB hb, h4.2⟩

/-- what one segment counts -/
def cnt (t : Int) (l : List Int) : Nat := if t == 2 then l.length else if t == 1 then 1 else 0
/-- what the first k segments count -/
def plen (ty : Nat → Int) (zs : Nat → List Int) : Nat → Nat
  | 0 => 0
  | k + 1 => plen ty zs k + cnt (ty k) (zs k)
theorem cnt_le {t : Int} {l : List Int} (h : l.length ≤ 1048576) : cnt t l ≤ 1048576 := by
  unfold cnt
  split
  · exact h
  · split <;> omega
theorem plen_le {ty : Nat → Int} {zs : Nat → List Int} {n : Nat} (hs : ∀ i, i < n → (zs i).length ≤ 1048576) : ∀ k, k ≤ n → plen ty zs k ≤ k * 1048576
  | 0, _ => Nat.le_refl _
  | k + 1, h => by
    have := plen_le (ty := ty) hs k (by omega)
    have := cnt_le (t := ty k) (hs k (by omega))
    unfold plen; omega

theorem ret_int {k : IntKind} {a b : Int} (h : a = b) : Ending.returned (.int k a) = .returned (.int k b) := by rw [h]

set_option maxHeartbeats 800000 in
theorem length_any (ao : Option Addr) (n cap : Nat) (ty : Nat → Int) (zs : Nat → List Int) (w : World) (hp : PathAt w ao n ty zs) (hl : n ≤ 4194304) (hs : ∀ i, i < n → (zs i).length ≤ 4194304) :
    Calls Trym.prog 36 #[.slice ao n cap] w fun e w' => e = .returned (.int .i64 (plen ty zs n)) ∧ Below w.heap.size w w' := by
  have hpl : ∀ k, k ≤ n → plen ty zs k ≤ k * 4194304 := by
    intro k
    induction k with
    | zero => intro _; exact Nat.le_refl _
    | succ k ih =>
      intro h
      have h1 := ih (by omega)
      have h2 : cnt (ty k) (zs k) ≤ 4194304 := by
        have := hs k (by omega)
        unfold cnt
        split
        · exact this
        · split <;> omega
      show plen ty zs k + cnt (ty k) (zs k) ≤ _
      omega
  go_enter Trym.func36, Trym.ntmps36
  go_wp2
  go_loopw [3, 8] (fun c i wr => ∃ k : Nat, k ≤ n ∧ i = .int .i64 k ∧ c = .int .i64 (plen ty zs k) ∧ Below w.heap.size w wr) (fun _ i _ => n - (intOf i).toNat)
  case atStart => exact ⟨0, Nat.zero_le _, rfl, rfl, Below.refl _ _⟩
  case round =>
    obtain ⟨k, hk, rfl, rfl, hbel⟩ := hrel
    have hpk := hpl k hk
    have HPL : Hid (∀ k, k ≤ n → plen ty zs k ≤ k * 4194304) := hpl
    have HP : Hid (PathAt w ao n ty zs) := hp
    have HB : Hid (Below w.heap.size w wr) := hbel
    have hB : w.heap.size ≤ wr.heap.size := hbel.size
    clear hpl hp hbel
    by_cases hlt : k < n
    · obtain ⟨b, off, xo, xc, rfl, c0, c1, c2, c3, _⟩ := HP.out.at hlt
      have d0 := (HB.out.cell (p := ⟨b, off + k * 2, none⟩) (cell_lt c0)).trans c0
      have d1 := (HB.out.cell (p := ⟨b, off + k * 2 + 1, none⟩) (cell_lt c1)).trans c1
      have hsk := hs k hlt
      have HE : Hid (plen ty zs (k + 1) = plen ty zs k + cnt (ty k) (zs k)) := rfl
      clear c0 c1
      cases h2 : (ty k == 2)
      · cases h1 : (ty k == 1)
        · have HC : Hid (cnt (ty k) (zs k) = 0) := by unfold Hid cnt; rw [h2, h1]; rfl
          go_wp2
          go_roundw
          case rel => exact ⟨k + 1, by omega, by go_num, by rw [HE.out, HC.out]; go_num, HB.out.alloc hB _⟩
          case measure => simp [intOf]; omega
        · have HC : Hid (cnt (ty k) (zs k) = 1) := by unfold Hid cnt; rw [h2, h1]; rfl
          go_wp2
          go_roundw
          case rel => exact ⟨k + 1, by omega, by go_num, by rw [HE.out, HC.out]; go_num, HB.out.alloc hB _⟩
          case measure => simp [intOf]; omega
      · have HC : Hid (cnt (ty k) (zs k) = (zs k).length) := by unfold Hid cnt; rw [h2]; rfl
        go_wp2
        go_roundw
        case rel => exact ⟨k + 1, by omega, by go_num, by rw [HE.out, HC.out]; go_num, HB.out.alloc hB _⟩
        case measure => simp [intOf]; omega
    · obtain rfl : k = n := by omega
      go_wp2
      go_ret
      exact ⟨rfl, HB.out⟩

set_option maxHeartbeats 800000 in
theorem b1Counted_any (a1 a2 : Option Addr) (n c1 c2 : Nat) (ty : Nat → Int) (zs : Nat → List Int) (w : World) (h1 : U8At w a1 n ty) (h2 : RowsAt w a2 n zs) (hs : Small n zs) :
    Calls Trym.prog 20 #[.slice a1 n c1, .slice a2 n c2] w fun e w' => e = .returned (.int .i64 (plen ty zs n)) ∧ w' = w := by
  have hn := hs.1
  go_enter Trym.func20, Trym.ntmps20
  go_wp2
  go_loop [5, 6] (fun c i => ∃ k : Nat, k ≤ n ∧ i = .int .i64 k ∧ c = .int .i64 (plen ty zs k)) (fun _ i => n - (intOf i).toNat)
  case atStart => exact ⟨0, Nat.zero_le _, rfl, rfl⟩
  case round =>
    obtain ⟨k, hk, rfl, rfl⟩ := hrel
    have hpk := plen_le (ty := ty) hs.2 k hk
    by_cases hlt : k < n
    · obtain ⟨b, off, rfl, d0⟩ := h1.at hlt
      obtain ⟨b2, off2, xo, xc, rfl, d1, d2, d3, _⟩ := h2.at hlt
      have hsk := hs.2 k hlt
      have HE : Hid (plen ty zs (k + 1) = plen ty zs k + cnt (ty k) (zs k)) := rfl
      have HS : Hid (Small n zs) := hs
      clear hs h1 h2
      cases h2 : (ty k == 2)
      · cases h1 : (ty k == 1)
        · have HC : Hid (cnt (ty k) (zs k) = 0) := by unfold Hid cnt; rw [h2, h1]; rfl
          go_wp2
          go_round
          case rel => exact ⟨k + 1, by omega, by go_num, by rw [HE.out, HC.out]; go_num⟩
          case measure => simp [intOf]; omega
        · have HC : Hid (cnt (ty k) (zs k) = 1) := by unfold Hid cnt; rw [h2, h1]; rfl
          go_wp2
          go_round
          case rel => exact ⟨k + 1, by omega, by go_num, by rw [HE.out, HC.out]; go_num⟩
          case measure => simp [intOf]; omega
      · have HC : Hid (cnt (ty k) (zs k) = (zs k).length) := by unfold Hid cnt; rw [h2]; rfl
        go_wp2
        go_round
        case rel => exact ⟨k + 1, by omega, by go_num, by rw [HE.out, HC.out]; go_num⟩
        case measure => simp [intOf]; omega
    · obtain rfl : k = n := by omega
      go_wp2
      go_ret
      exact ⟨rfl, rfl⟩

end Go.Proofs.Qxb6614704aMods
