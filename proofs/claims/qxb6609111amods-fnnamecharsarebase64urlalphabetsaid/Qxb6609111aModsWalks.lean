/-
  The walks of the five functions on the road of FnNameCharsAreBase64URLAlphabet. Each computes a plain function.
-/
import Derived.Test.Qxb6609111aModsRows
import Derived.WalkKit
namespace Go.Proofs.Qxb6609111aMods
open Go.RowKit

/-! ### the plain functions -/
/-- 'notNameChar'. -/
def nn (r : Int) : Bool := decide (¬ (r = 45 ∨ r = 95 ∨ (97 ≤ r ∧ r ≤ 122) ∨ (65 ≤ r ∧ r ≤ 90) ∨ (48 ≤ r ∧ r ≤ 57)))
/-- 'zzBase64URL'. -/
def b64 (i : Nat) : Int := if i < 26 then 65 + i else if i < 52 then 97 + i - 26 else if i < 62 then 48 + i - 52 else if i = 62 then 45 else 95
/-- 'zzInBase64URL'. -/
def in64 (r : Int) : Bool := (List.range 64).any fun i => b64 i == r
/-- how many of the first k are accepted. -/
def cnt (k : Nat) : Nat := ((List.range k).filter fun c : Nat => !nn c).length

theorem nn_iff (r : Int) : nn r = true ↔ ¬ (r = 45 ∨ r = 95 ∨ (97 ≤ r ∧ r ≤ 122) ∨ (65 ≤ r ∧ r ≤ 90) ∨ (48 ≤ r ∧ r ≤ 57)) := by unfold nn; exact decide_eq_true_iff
theorem nn_true {r : Int} (h : ¬ (r = 45 ∨ r = 95 ∨ (97 ≤ r ∧ r ≤ 122) ∨ (65 ≤ r ∧ r ≤ 90) ∨ (48 ≤ r ∧ r ≤ 57))) : nn r = true := (nn_iff r).2 h
theorem nn_false {r : Int} (h : r = 45 ∨ r = 95 ∨ (97 ≤ r ∧ r ≤ 122) ∨ (65 ≤ r ∧ r ≤ 90) ∨ (48 ≤ r ∧ r ≤ 57)) : nn r = false := by
  cases e : nn r
  · rfl
  · exact absurd h ((nn_iff r).1 e)
theorem nn_b64 (i : Nat) (h : i < 64) : nn (b64 i) = false := by
  apply nn_false
  unfold b64
  split
  · omega
  · split
    · omega
    · split
      · omega
      · split <;> omega
theorem b64_range (i : Nat) (h : i < 64) : 45 ≤ b64 i ∧ b64 i ≤ 122 := by
  unfold b64
  split
  · omega
  · split
    · omega
    · split
      · omega
      · split <;> omega
theorem in64_of (r : Int) (i : Nat) (hi : i < 64) (h : b64 i = r) : in64 r = true := by
  unfold in64
  rw [List.any_eq_true]
  exact ⟨i, by simpa using hi, by simp [h]⟩
theorem not_in64 (r : Int) (h : ∀ i, i < 64 → b64 i ≠ r) : in64 r = false := by
  unfold in64
  rw [List.any_eq_false]
  intro i hi
  simpa using h i (by simpa using hi)
/-- THE PLAIN LAW: accepted just if it is the character of some sextet. -/
theorem nn_in64 (r : Int) : (!nn r) = in64 r := by
  by_cases h : r = 45 ∨ r = 95 ∨ (97 ≤ r ∧ r ≤ 122) ∨ (65 ≤ r ∧ r ≤ 90) ∨ (48 ≤ r ∧ r ≤ 57)
  · rw [nn_false h]
    symm
    show in64 r = true
    rcases h with h | h | h | h | h
    · exact in64_of r 62 (by omega) (by subst h; rfl)
    · exact in64_of r 63 (by omega) (by subst h; rfl)
    · exact in64_of r (r - 97 + 26).toNat (by omega) (by unfold b64; rw [if_neg (by omega), if_pos (by omega)]; omega)
    · exact in64_of r (r - 65).toNat (by omega) (by unfold b64; rw [if_pos (by omega)]; omega)
    · exact in64_of r (r - 48 + 52).toNat (by omega) (by unfold b64; rw [if_neg (by omega), if_neg (by omega), if_pos (by omega)]; omega)
  · rw [nn_true h]
    symm
    show in64 r = false
    apply not_in64
    intro i hi e
    have := nn_b64 i hi
    rw [e, nn_true h] at this
    cases this
theorem cnt_zero : cnt 0 = 0 := rfl
theorem cnt_yes (k : Nat) (h : nn (k : Int) = false) : cnt (k + 1) = cnt k + 1 := by
  simp [cnt, List.range_succ, List.filter_append, h]
theorem cnt_no (k : Nat) (h : nn (k : Int) = true) : cnt (k + 1) = cnt k := by
  simp [cnt, List.range_succ, List.filter_append, h]
theorem cnt_le (k : Nat) : cnt k ≤ k := by
  have := List.length_filter_le (fun c : Nat => !nn c) (List.range k)
  simpa [cnt] using this
theorem cnt_all : cnt 256 = 64 := by decide +kernel

/-! ### the walks -/
theorem ret_bool {a b : Bool} (h : a = b) : Ending.returned (.bool a) = .returned (.bool b) := by rw [h]
theorem ret_int {k : IntKind} {a b : Int} (h : a = b) : Ending.returned (.int k a) = .returned (.int k b) := by rw [h]

/-- The eleven ways through the test of 'notNameChar'. -/
theorem ways (r : Int) : r = 45 ∨ r = 95 ∨ ((r == 45) = false ∧ (r == 95) = false ∧ ((97 ≤ r ∧ r ≤ 122) ∨ (65 ≤ r ∧ r ≤ 90) ∨ (48 ≤ r ∧ r ≤ 57) ∨ r < 48 ∨ (57 < r ∧ r < 65) ∨ (90 < r ∧ r < 97) ∨ 122 < r)) := by
  by_cases h1 : r = 45
  · exact .inl h1
  · by_cases h2 : r = 95
    · exact .inr (.inl h2)
    · exact .inr (.inr ⟨beq_eq_false_iff_ne.2 h1, beq_eq_false_iff_ne.2 h2, by omega⟩)

theorem notNameChar_any (r : Int) (w : World) :
    Calls Trym.prog 7 #[.int .i32 r] w fun e w' => e = .returned (.bool (nn r)) ∧ w' = w := by
  rcases ways r with h | h | ⟨h1, h2, h | h | h | h | h | h | h⟩
  · subst h
    rw [nn_false (by omega)]
    go_enter Trym.func7, Trym.ntmps7
    go_wp2
    go_ret
    exact ⟨rfl, rfl⟩
  · subst h
    rw [nn_false (by omega)]
    go_enter Trym.func7, Trym.ntmps7
    go_wp2
    go_ret
    exact ⟨rfl, rfl⟩
  · rw [nn_false (by omega)]
    obtain ⟨a, b⟩ := h
    go_enter Trym.func7, Trym.ntmps7
    go_wp2
    go_ret
    exact ⟨rfl, rfl⟩
  · rw [nn_false (by omega)]
    obtain ⟨a, b⟩ := h
    go_enter Trym.func7, Trym.ntmps7
    go_wp2
    go_ret
    exact ⟨rfl, rfl⟩
  · rw [nn_false (by omega)]
    obtain ⟨a, b⟩ := h
    go_enter Trym.func7, Trym.ntmps7
    go_wp2
    go_ret
    exact ⟨rfl, rfl⟩
  · have h3 := beq_eq_false_iff_ne.1 h1
    have h4 := beq_eq_false_iff_ne.1 h2
    rw [nn_true (by omega)]
    clear h3 h4
    go_enter Trym.func7, Trym.ntmps7
    go_wp2
    go_ret
    exact ⟨rfl, rfl⟩
  · have h3 := beq_eq_false_iff_ne.1 h1
    have h4 := beq_eq_false_iff_ne.1 h2
    rw [nn_true (by omega)]
    clear h3 h4
    obtain ⟨a, b⟩ := h
    go_enter Trym.func7, Trym.ntmps7
    go_wp2
    go_ret
    exact ⟨ret_bool (by simp; omega), rfl⟩
  · have h3 := beq_eq_false_iff_ne.1 h1
    have h4 := beq_eq_false_iff_ne.1 h2
    rw [nn_true (by omega)]
    clear h3 h4
    obtain ⟨a, b⟩ := h
    go_enter Trym.func7, Trym.ntmps7
    go_wp2
    go_ret
    exact ⟨ret_bool (by simp; omega), rfl⟩
  · have h3 := beq_eq_false_iff_ne.1 h1
    have h4 := beq_eq_false_iff_ne.1 h2
    rw [nn_true (by omega)]
    clear h3 h4
    go_enter Trym.func7, Trym.ntmps7
    go_wp2
    go_ret
    exact ⟨ret_bool (by simp; omega), rfl⟩

theorem zzNot_any (r : Int) (w : World) :
    Calls Trym.prog 4 #[.int .i32 r] w fun e w' => e = .returned (.bool (nn r)) ∧ w' = w := by
  go_enter Trym.func4, Trym.ntmps4
  go_wp2_with (go_at_call 7; refine (notNameChar_any _ _).mono ?_; rintro e w' ⟨rfl, rfl⟩)
  go_ret
  exact ⟨rfl, rfl⟩

theorem zzBase64URL_any (i : Nat) (hi : i < 64) (w : World) :
    Calls Trym.prog 6 #[.int .i64 i] w fun e w' => e = .returned (.int .i32 (b64 i)) ∧ w' = w := by
  go_enter Trym.func6, Trym.ntmps6
  go_wp2
  · go_ret
    exact ⟨ret_int (by unfold b64; rw [if_pos (by omega)]), rfl⟩
  · go_ret
    exact ⟨ret_int (by unfold b64; rw [if_neg (by omega), if_pos (by omega)]), rfl⟩
  · go_ret
    exact ⟨ret_int (by unfold b64; rw [if_neg (by omega), if_neg (by omega), if_pos (by omega)]), rfl⟩
  · have h62 : ((i : Int) == 62) = true := by assumption
    have h62' := eq_of_beq h62
    go_ret
    exact ⟨ret_int (by unfold b64; rw [if_neg (by omega), if_neg (by omega), if_neg (by omega), if_pos (by omega)]), rfl⟩
  · have h62 : ((i : Int) == 62) = false := by assumption
    have h62' := beq_eq_false_iff_ne.1 h62
    go_ret
    exact ⟨ret_int (by unfold b64; rw [if_neg (by omega), if_neg (by omega), if_neg (by omega), if_neg (by omega)]), rfl⟩

theorem zzInBase64URL_any (r : Int) (w : World) :
    Calls Trym.prog 5 #[.int .i32 r] w fun e w' => e = .returned (.bool (in64 r)) ∧ w' = w := by
  go_enter Trym.func5, Trym.ntmps5
  go_wp2
  go_loop [3] (fun i => ∃ k : Nat, k ≤ 64 ∧ i = .int .i64 k ∧ ∀ j, j < k → b64 j ≠ r) (fun i => 64 - (intOf i).toNat)
  case atStart => exact ⟨0, by omega, rfl, fun j hj => by omega⟩
  case round =>
    obtain ⟨k, hk, rfl, hno⟩ := hrel
    have HN : Hid (∀ j, j < k → b64 j ≠ r) := hno
    clear hno
    by_cases hlt : k < 64
    · cases hb : (b64 k == r)
      · go_wp2_with (go_at_call 6; refine (zzBase64URL_any _ hlt _).mono ?_; rintro e w' ⟨rfl, rfl⟩)
        go_round
        case rel =>
          refine ⟨k + 1, by omega, by go_num, fun j hj => ?_⟩
          by_cases e : j = k
          · subst e; exact beq_eq_false_iff_ne.1 hb
          · exact HN.out j (by omega)
        case measure => simp [intOf]; omega
      · have e : b64 k = r := eq_of_beq hb
        have hin := in64_of r k hlt e
        have HI : Hid (in64 r = true) := hin
        clear e hin
        go_wp2_with (go_at_call 6; refine (zzBase64URL_any _ hlt _).mono ?_; rintro e w' ⟨rfl, rfl⟩)
        go_ret
        exact ⟨ret_bool HI.out.symm, rfl⟩
    · have hin := not_in64 r (fun i hi => HN.out i (by omega))
      have HI : Hid (in64 r = false) := hin
      clear hin
      go_wp2
      go_ret
      exact ⟨ret_bool HI.out.symm, rfl⟩

end Go.Proofs.Qxb6609111aMods
