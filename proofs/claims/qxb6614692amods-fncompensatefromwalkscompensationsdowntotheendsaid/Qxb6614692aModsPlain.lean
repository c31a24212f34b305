/-
  The plain laws of a saga that is compensated from a step downwards. No Go in sight.
-/
import Derived.Deep.OwnRows
import Derived.Laws.AppendOwn
namespace Go.Proofs.Qxb6614692aMods

/-- the steps below q that have a compensation (Z i: step i has none), in order -/
def L (Z : Nat → Bool) : Nat → List Nat
  | 0 => []
  | q + 1 => if Z q then L Z q else L Z q ++ [q]
def M (Z : Nat → Bool) (q : Nat) : Nat := (L Z q).length
theorem M_zero (Z : Nat → Bool) : M Z 0 = 0 := rfl
theorem L_yes {Z : Nat → Bool} {q : Nat} (h : Z q = true) : L Z (q + 1) = L Z q := by simp [L, h]
theorem L_no {Z : Nat → Bool} {q : Nat} (h : Z q = false) : L Z (q + 1) = L Z q ++ [q] := by simp [L, h]
theorem M_yes {Z : Nat → Bool} {q : Nat} (h : Z q = true) : M Z (q + 1) = M Z q := by simp [M, L_yes h]
theorem M_no {Z : Nat → Bool} {q : Nat} (h : Z q = false) : M Z (q + 1) = M Z q + 1 := by simp [M, L_no h]
theorem M_le (Z : Nat → Bool) : ∀ q, M Z q ≤ q
  | 0 => Nat.le_refl _
  | q + 1 => by
    have := M_le Z q
    cases h : Z q
    · rw [M_no h]; omega
    · rw [M_yes h]; omega
theorem M_mono (Z : Nat → Bool) (p : Nat) : ∀ q, p ≤ q → M Z p ≤ M Z q
  | 0, h => by rw [Nat.le_zero.1 h]; exact Nat.le_refl _
  | q + 1, h => by
    by_cases e : p = q + 1
    · rw [e]; exact Nat.le_refl _
    · have := M_mono Z p q (by omega)
      cases hz : Z q
      · rw [M_no hz]; omega
      · rw [M_yes hz]; exact this
/-- the j-th place of the list -/
theorem L_at (Z : Nat → Bool) (j : Nat) (hj : Z j = false) : ∀ q, j < q → (L Z q)[M Z j]? = some j
  | 0, h => by omega
  | q + 1, h => by
    by_cases e : j = q
    · subst e; rw [L_no hj]; simp [M]
    · have ih := L_at Z j hj q (by omega)
      cases hz : Z q
      · rw [L_no hz, List.getElem?_append_left]
        · exact ih
        · exact (List.getElem?_eq_some_iff.1 ih).1
      · rw [L_yes hz]; exact ih
/-- nothing is counted across steps without a compensation -/
theorem M_flat (Z : Nat → Bool) (p : Nat) : ∀ q, p ≤ q → (∀ i, p ≤ i → i < q → Z i = true) → M Z q = M Z p
  | 0, h, _ => by rw [Nat.le_zero.1 h]
  | q + 1, h, a => by
    by_cases e : p = q + 1
    · rw [e]
    · rw [M_yes (a q (by omega) (by omega))]
      exact M_flat Z p q (by omega) (fun i h1 h2 => a i h1 (by omega))

/-- the cells of step i: URL, CompensateURL, Body, state, attempts -/
def cells0 (U C B T : Nat → ByteArray) (A : Nat → Int) (i : Nat) : Nat → Value
  | 0 => .string (U i)
  | 1 => .string (C i)
  | 2 => .string (B i)
  | 3 => .string (T i)
  | _ => .int .i64 (A i)
def passedOver : ByteArray := ⟨#[112, 97, 115, 115, 101, 100, 95, 111, 118, 101, 114]⟩
/-- the steps when those from p up to (not with) q have been looked at: each without a compensation is passed over -/
def FP (U C B T : Nat → ByteArray) (A : Nat → Int) (Z : Nat → Bool) (q p : Nat) (i j : Nat) : Value :=
  if j = 3 ∧ p ≤ i ∧ i < q ∧ Z i = true then .string passedOver else cells0 U C B T A i j
/-- the steps below m without their URLs and bodies -/
def FE (F : Nat → Nat → Value) (m : Nat) (i j : Nat) : Value := if i < m ∧ j < 3 then .string ⟨#[]⟩ else F i j

theorem FP_start (U C B T : Nat → ByteArray) (A : Nat → Int) (Z : Nat → Bool) (q i j : Nat) : FP U C B T A Z q q i j = cells0 U C B T A i j := by
  unfold FP; rw [if_neg (by omega)]
theorem FP_pass (U C B T : Nat → ByteArray) (A : Nat → Int) (Z : Nat → Bool) (q p i j : Nat) (hp : p < q) (hz : Z p = true) :
    (if i = p ∧ j = 3 then Value.string passedOver else FP U C B T A Z q (p + 1) i j) = FP U C B T A Z q p i j := by
  unfold FP
  by_cases h : i = p ∧ j = 3
  · rw [if_pos h, if_pos ⟨h.2, by omega, by omega, by rw [h.1]; exact hz⟩]
  · rw [if_neg h]
    by_cases h2 : j = 3 ∧ p + 1 ≤ i ∧ i < q ∧ Z i = true
    · rw [if_pos h2, if_pos ⟨h2.1, by omega, h2.2.2⟩]
    · rw [if_neg h2, if_neg (fun h3 => h2 ⟨h3.1, by omega, h3.2.2⟩)]
theorem FP_skip (U C B T : Nat → ByteArray) (A : Nat → Int) (Z : Nat → Bool) (q p i j : Nat) (hz : Z p = false) :
    FP U C B T A Z q (p + 1) i j = FP U C B T A Z q p i j := by
  unfold FP
  by_cases h2 : j = 3 ∧ p + 1 ≤ i ∧ i < q ∧ Z i = true
  · rw [if_pos h2, if_pos ⟨h2.1, by omega, h2.2.2⟩]
  · rw [if_neg h2, if_neg]
    intro h3
    apply h2
    refine ⟨h3.1, ?_, h3.2.2⟩
    rcases Nat.lt_or_ge p i with h | h
    · exact h
    · have : i = p := by omega
      rw [this, hz] at h3
      exact absurd h3.2.2.2 (by simp)
theorem FP_comp (U C B T : Nat → ByteArray) (A : Nat → Int) (Z : Nat → Bool) (q p i : Nat) : FP U C B T A Z q p i 1 = .string (C i) := by
  unfold FP; rw [if_neg (by omega)]; rfl
theorem FE_zero (F : Nat → Nat → Value) (i j : Nat) : FE F 0 i j = F i j := by unfold FE; rw [if_neg (by omega)]
theorem FE_next (F : Nat → Nat → Value) (m i j : Nat) (hj : j < 5) :
    (if i = m ∧ j = 2 then Value.string ⟨#[]⟩ else if i = m ∧ j = 1 then Value.string ⟨#[]⟩ else if i = m ∧ j = 0 then Value.string ⟨#[]⟩ else FE F m i j) = FE F (m + 1) i j := by
  unfold FE
  by_cases hi : i = m
  · subst hi
    rcases j with _ | _ | _ | j
    · simp
    · simp
    · simp
    · rw [if_neg (by omega), if_neg (by omega), if_neg (by omega), if_neg (by omega), if_neg (by omega)]
  · by_cases h : i < m ∧ j < 3
    · rw [if_neg (by omega), if_neg (by omega), if_neg (by omega), if_pos h, if_pos (by omega)]
    · rw [if_neg (by omega), if_neg (by omega), if_neg (by omega), if_neg h, if_neg (by omega)]

/-! ### the row of steps in memory -/
def StepsAt (w : World) (g n : Nat) (F : Nat → Nat → Value) : Prop :=
  ∃ c : Array Value, w.heap[g]? = some (.cells c 76 (0, 0)) ∧ n * 5 ≤ c.size ∧ ∀ i, i < n → ∀ j, j < 5 → c[i * 5 + j]? = some (F i j)
theorem StepsAt.cell {w : World} {g n : Nat} {F : Nat → Nat → Value} (h : StepsAt w g n F) {i j : Nat} (hi : i < n) (hj : j < 5) : w.cell? ⟨g, i * 5 + j, none⟩ = some (F i j) := by
  obtain ⟨c, hb, _, hc⟩ := h
  simp [World.cell?, hb, hc i hi j hj]
theorem StepsAt.frozen {w : World} {g n : Nat} {F : Nat → Nat → Value} (h : StepsAt w g n F) (o : Nat) : w.frozen? ⟨g, o, none⟩ = false := by
  obtain ⟨c, hb, _, _⟩ := h
  simp [World.frozen?, hb]
theorem StepsAt.lt {w : World} {g n : Nat} {F : Nat → Nat → Value} (h : StepsAt w g n F) : g < w.heap.size := by
  obtain ⟨c, hb, _, _⟩ := h
  exact (Array.getElem?_eq_some_iff.1 hb).1
theorem StepsAt.of_block {w w' : World} {g n : Nat} {F : Nat → Nat → Value} (h : StepsAt w g n F) (e : w'.heap[g]? = w.heap[g]?) : StepsAt w' g n F := by
  obtain ⟨c, hb, r⟩ := h
  exact ⟨c, e.trans hb, r⟩
theorem StepsAt.congr {w : World} {g n : Nat} {F G : Nat → Nat → Value} (h : StepsAt w g n F) (e : ∀ i, i < n → ∀ j, j < 5 → F i j = G i j) : StepsAt w g n G := by
  obtain ⟨c, hb, hn, hc⟩ := h
  exact ⟨c, hb, hn, fun i hi j hj => by rw [hc i hi j hj, e i hi j hj]⟩
theorem StepsAt.set {w : World} {g n : Nat} {F : Nat → Nat → Value} (h : StepsAt w g n F) {i j : Nat} (hi : i < n) (hj : j < 5) (v : Value) :
    StepsAt (w.setCell ⟨g, i * 5 + j, none⟩ v) g n (fun a b => if a = i ∧ b = j then v else F a b) := by
  obtain ⟨c, hb, hn, hc⟩ := h
  refine ⟨c.setIfInBounds (i * 5 + j) v, ?_, by simpa using hn, fun a ha b hb' => ?_⟩
  · simp [World.setCell, Array.getElem?_modify, hb]
  · rw [Array.getElem?_setIfInBounds]
    by_cases e : i * 5 + j = a * 5 + b
    · have e1 : a = i := by omega
      have e2 : b = j := by omega
      subst e1; subst e2
      have : a * 5 + b < c.size := by omega
      simp [this]
    · rw [if_neg e, hc a ha b hb']
      show some (F a b) = some (if a = i ∧ b = j then v else F a b)
      rw [if_neg (by omega)]
/-- the cells of the first k steps, one behind the other -/
def rowOf (F : Nat → Nat → Value) : Nat → List Value
  | 0 => []
  | k + 1 => rowOf F k ++ [F k 0, F k 1, F k 2, F k 3, F k 4]
theorem rowOf_length (F : Nat → Nat → Value) : ∀ k, (rowOf F k).length = k * 5
  | 0 => rfl
  | k + 1 => by simp [rowOf, rowOf_length F k]; omega
theorem rowOf_at (F : Nat → Nat → Value) (i j : Nat) (hj : j < 5) : ∀ k, i < k → (rowOf F k)[i * 5 + j]? = some (F i j)
  | 0, h => by omega
  | k + 1, h => by
    have hl := rowOf_length F k
    by_cases e : i = k
    · subst e
      rw [rowOf, List.getElem?_append_right (by omega), hl]
      have : i * 5 + j - i * 5 = j := by omega
      rw [this]
      rcases j with _ | _ | _ | _ | _ | j <;> first | rfl | omega
    · rw [rowOf, List.getElem?_append_left (by omega)]
      exact rowOf_at F i j hj k (by omega)
theorem steps_of_owned {w : World} {base g n cap : Nat} {F : Nat → Nat → Value} (h : w.ownsRow base 76 5 (.slice (some ⟨g, 0, none⟩) n cap) n (rowOf F n)) : StepsAt w g n F := by
  rcases h.2 with ⟨h0, _⟩ | ⟨g', cap', cur, hv, hb, hg, hc1, hc2, hsz, htk⟩
  · cases h0
  · simp only [Value.slice.injEq, Option.some.injEq, Addr.mk.injEq] at hv
    obtain ⟨⟨rfl, _⟩, _, rfl⟩ := hv
    refine ⟨cur, hg, by rw [hsz]; exact Nat.mul_le_mul_right 5 hc1, fun i hi j hj => ?_⟩
    have := rowOf_at F i j hj n hi
    rw [← htk, List.getElem?_take, if_pos (by omega)] at this
    simpa using this
end Go.Proofs.Qxb6614692aMods
