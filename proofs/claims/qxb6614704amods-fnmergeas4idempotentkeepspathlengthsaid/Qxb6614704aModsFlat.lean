/-
  b1Flat.
-/
import Derived.Test.Qxb6614704aModsMem
namespace Go.Proofs.Qxb6614704aMods
open Go.RowKit

def flatTo (zs : Nat → List Int) : Nat → List Int
  | 0 => []
  | k + 1 => flatTo zs k ++ zs k
def u32s (l : List Int) : List Value := l.map (fun z => Value.int .u32 z)
/-- the call's own row of those numbers -/
def Own32 (w : World) (K : Nat) (v : Value) (l : List Int) : Prop := w.ownsRow K 34 1 v l.length (u32s l)
theorem Own32.nil (w : World) (K : Nat) : Own32 w K (.slice none 0 0) [] := World.ownsRow_nil _ _ _ _
theorem Own32.form {w : World} {K : Nat} {v : Value} {l : List Int} (h : Own32 w K v l) : ∃ bo bc, v = .slice bo l.length bc ∧ AsnsIn w K bo l ∧ l.length ≤ bc ∧ bc ≤ maxLen := by
  rcases h.2 with ⟨e, h0⟩ | ⟨g, cap, cur, e, hk, hg, h1, h2, h3, h4⟩
  · exact ⟨none, 0, by rw [e, h0], .inl h0, by omega, Nat.zero_le _⟩
  · refine ⟨_, cap, e, .inr ⟨g, 0, rfl, hk, fun j hj => ?_⟩, h1, h2⟩
    have hu : (u32s l)[j]? = some (.int .u32 (nth l j)) := by simp [u32s, nth, List.getD, hj]
    have hb : v.ownBlock = some g := by rw [e]; rfl
    have := World.ownsRow.cells h hb j _ hu
    rw [Addr.add_lit] at this
    exact this
theorem Own32.row {w : World} {K : Nat} {v : Value} {l : List Int} (h : Own32 w K v l) : ∀ q, v.ownBlock = some q → K ≤ q := by
  intro q hq
  rcases h.2 with ⟨e, _⟩ | ⟨g, cp, cur, e, hg', _⟩
  · rw [e] at hq; cases hq
  · rw [e] at hq; injection hq with hq; simp at hq; omega
theorem news32 (w : World) (a : Value) : ∀ j u, [a][j]? = some u → (w.alloc (.cells #[a] 34)).cell? ((⟨w.heap.size, 0, none⟩ : Addr).add j) = some u := by
  intro j u hu
  exact World.news_of_block (cs := #[a]) (heap_alloc_new w (.cells #[a] 34)) j u hu
theorem Own32.more {w1 : World} {K : Nat} {v' : Value} {l : List Int} {z : Int} (hown : w1.ownsRow K 34 1 v' (l.length + 1) (u32s l ++ [.int .u32 z])) : Own32 w1 K v' (l ++ [z]) := by
  unfold Own32
  have e : u32s (l ++ [z]) = u32s l ++ [.int .u32 z] := by simp [u32s]
  rw [e, List.length_append]
  exact hown
theorem take_next {l : List Int} {j : Nat} (h : j < l.length) : l.take (j + 1) = l.take j ++ [nth l j] := by
  rw [List.take_succ_eq_append_getElem h]
  simp [nth, List.getD, h]

/-- It returned a slice of those numbers. -/
def RetFlat (e : Ending) (w' : World) (K : Nat) (l : List Int) : Prop := ∃ bo bc, e = .returned (.slice bo l.length bc) ∧ AsnsIn w' K bo l ∧ l.length ≤ bc ∧ bc ≤ maxLen
theorem flatTo_le {zs : Nat → List Int} {n : Nat} (h : ∀ i, i < n → (zs i).length ≤ 1048576) : ∀ k, k ≤ n → (flatTo zs k).length ≤ k * 1048576
  | 0, _ => Nat.le_refl _
  | k + 1, hk => by
    have h1 := flatTo_le h k (by omega)
    have h2 := h k (by omega)
    rw [flatTo, List.length_append]
    omega

set_option maxHeartbeats 1600000 in
theorem flat_any (a1 : Option Addr) (n c1 : Nat) (zs : Nat → List Int) (w : World) (h1 : RowsAt w a1 n zs) (hs : Small n zs) :
    Calls Trym.prog 29 #[.slice a1 n c1] w fun e w' => RetFlat e w' w.heap.size (flatTo zs n) ∧ Below w.heap.size w w' := by
  obtain ⟨i0, hi, hz0, hz1, hz2⟩ := info_parts info34
  have hn := hs.1
  have HS : Hid (Small n zs) := hs
  have H1 : Hid (RowsAt w a1 n zs) := h1
  clear hs h1
  go_enter Trym.func29, Trym.ntmps29
  go_wp2_with fail
  go_loopw [3, 4] (fun o i wr => ∃ (k : Nat) (v : Value), k ≤ n ∧ i = .int .i64 k ∧ v = o ∧ Own32 wr w.heap.size v (flatTo zs k) ∧ Below w.heap.size w wr) (fun _ i _ => n - (intOf i).toNat)
  case atStart => exact ⟨0, _, Nat.zero_le _, rfl, rfl, Own32.nil _ _, Below.refl _ _⟩
  case round =>
    obtain ⟨k, v, hk, rfl, rfl, how, hb⟩ := hrel
    rename World => wo
    have HO : Hid (Own32 wo w.heap.size v (flatTo zs k)) := how
    have HB : Hid (Below w.heap.size w wo) := hb
    clear how hb
    by_cases hlt : k < n
    · obtain ⟨b2, off2, xo, xc, rfl, e0, e2, e3, ha, _⟩ := H1.out.at hlt
      have hki : (k : Int) < (n : Int) := by omega
      have HA : Hid (AsnsF w xo (zs k)) := ha
      have hsk := HS.out.2 k hlt
      have hfl := flatTo_le HS.out.2 k hk
      clear ha
      unfold maxLen at e3
      go_wp2_with fail
      go_loopw [3, 5] (fun o i wr => ∃ (j : Nat) (v : Value), j ≤ (zs k).length ∧ i = .int .i64 j ∧ v = o ∧ Own32 wr w.heap.size v (flatTo zs k ++ (zs k).take j) ∧ Below w.heap.size w wr) (fun _ i _ => (zs k).length - (intOf i).toNat)
      case atStart => exact ⟨0, _, Nat.zero_le _, rfl, rfl, by simpa using HO.out, HB.out⟩
      case round =>
        obtain ⟨j, v2, hj, rfl, rfl, how2, hb2⟩ := hrel
        have HO2 : Hid (Own32 wr w.heap.size v2 (flatTo zs k ++ (zs k).take j)) := how2
        have HB2 : Hid (Below w.heap.size w wr) := hb2
        have e1 := (hb2.cell (p := ⟨b2, off2 + k, none⟩) (cell_lt e0)).trans e0
        have hw2 : w.heap.size ≤ wr.heap.size := hb2.size
        clear how2 hb2
        by_cases hjl : j < (zs k).length
        · obtain ⟨p, po, rfl, g0⟩ := HA.out.at hjl
          have g1 := (HB2.out.cell (p := ⟨p, po + j, none⟩) (cell_lt g0)).trans g0
          have hji : (j : Int) < ((zs k).length : Int) := by omega
          have HLL : Hid ((flatTo zs k ++ (zs k).take j).length + 1 ≤ maxLen) := by unfold Hid maxLen; simp; omega
          have HLB : Hid (((flatTo zs k ++ (zs k).take j).length + 1) * 4 ≤ 140737488355328) := by unfold Hid; simp; omega
          have HONE : Hid (∀ a, ∀ u ∈ [Value.int .u32 a], u.oneCell' = true) := by unfold Hid; simp [Value.oneCell']
          clear g0
          go_wp2_with (first | (at_builtin; refine wpList_append_lies _ rfl _ _ 47 rfl w.heap.size 34 i0 _ 1 4 Trym.underlying47 hi hz0 hz1 hz2 (by rfl) (by decide) v2 (flatTo zs k ++ (zs k).take j).length (u32s (flatTo zs k ++ (zs k).take j)) rfl (by exact World.ownsRow.alloc HO2.out _) ⟨wr.heap.size, 0, none⟩ 1 1 [.int .u32 (nth (zs k) j)] rfl (by rfl) (by exact news32 wr _) (by exact HONE.out _) (by decide) HLL.out HLB.out (by simp; omega) (wr.heap.size + 1) (by simp) ?_; intro g cap w1 hown1 hgrow hat hglt; clear hat hglt; have HO3 : Hid (Own32 w1 w.heap.size (.slice (some ⟨g, 0, none⟩) ((flatTo zs k ++ (zs k).take j).length + 1) cap) (flatTo zs k ++ (zs k).take (j + 1))) := (by unfold Hid; rw [take_next hjl, ← List.append_assoc]; exact Own32.more hown1); have HB3 : Hid (Below w.heap.size w w1) := (HB2.out.alloc hw2 _).grown hgrow (by simp; omega) HO2.out.row; clear hown1 hgrow) | go_in)
          go_roundw
          case rel => exact ⟨j + 1, _, by omega, by go_num, rfl, (by have h := HO3.out; rw [show (flatTo zs k ++ (zs k).take j).length = (flatTo zs k).length + j by simp; omega] at h; exact h), HB3.out⟩
          case measure => simp [intOf]; omega
        · obtain rfl : j = (zs k).length := by omega
          have HO4 : Hid (Own32 wr w.heap.size v2 (flatTo zs (k + 1))) := by
            have := HO2.out
            rw [List.take_length] at this
            exact this
          go_wp2_with fail
          go_roundw
          case rel => exact ⟨k + 1, _, by omega, by go_num, rfl, HO4.out, HB2.out⟩
          case measure => simp [intOf]; omega
    · obtain rfl : k = n := by omega
      obtain ⟨bo, bc, rfl, hin, hl1, hl2⟩ := HO.out.form
      have HIN : Hid (AsnsIn wo w.heap.size bo (flatTo zs k)) := hin
      clear hin
      go_wp2_with fail
      go_ret
      exact ⟨⟨bo, bc, rfl, HIN.out, hl1, hl2⟩, HB.out⟩
end Go.Proofs.Qxb6614704aMods
