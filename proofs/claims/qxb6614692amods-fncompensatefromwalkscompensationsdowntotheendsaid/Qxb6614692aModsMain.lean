/-
  The law's own walk, out of the contracts.
-/
import Derived.Test.Qxb6614692aModsRounds
import Derived.Deep.AppendLies
import Derived.OwnWalk
import Derived.Deep.DeepCutAuto
import Derived.WalkSpells
namespace Go.Proofs.Qxb6614692aMods
open Go.RowKit

set_option maxRecDepth 100000 in
set_option maxHeartbeats 16000000 in
theorem walk (a0 a1 a2 a3 a4 : Option Addr) (l0 l1 l2 l3 l4 c0 c1 c2 c3 c4 : Nat) (U C Bd T : Nat → ByteArray) (A : Nat → Int) (nx fr at_ : Int) (w : World)
    (h0 : StrsAt w a0 l0 U) (h1 : StrsAt w a1 l1 C) (h2 : StrsAt w a2 l2 Bd) (h3 : StrsAt w a3 l3 T) (h4 : IntsAt w a4 l4 A)
    (b0 : l0 ≤ maxLen) (b1 : l1 ≤ maxLen) (b2 : l2 ≤ maxLen) (b3 : l3 ≤ maxLen) (b4 : l4 ≤ maxLen)
    (n0 : a0 = none → l0 = 0) (n1 : a1 = none → l1 = 0) (n2 : a2 = none → l2 = 0) (n3 : a3 = none → l3 = 0) (n4 : a4 = none → l4 = 0) (hlo : -9223372036854775808 ≤ fr) :
    Calls Trym.prog 4 #[.slice a0 l0 c0, .slice a1 l1 c1, .slice a2 l2 c2, .slice a3 l3 c3, .slice a4 l4 c4, .int .i64 nx, .int .i64 fr, .int .i64 at_] w fun e w' => e = .returned (.bool true) ∧ Below w.heap.size w w' := by
  have N0 : Hid (a0 = none → l0 = 0) := n0
  have N1 : Hid (a1 = none → l1 = 0) := n1
  have N2 : Hid (a2 = none → l2 = 0) := n2
  have N3 : Hid (a3 = none → l3 = 0) := n3
  have N4 : Hid (a4 = none → l4 = 0) := n4
  clear n0 n1 n2 n3 n4
  go_enter Trym.func4, Trym.ntmps4
  go_wp2_with fail
  refine (zzBytes_any a0 a1 a2 a3 a4 l0 l1 l2 l3 l4 c0 c1 c2 c3 c4 U C Bd T nx fr at_ _ h0 h1 h2 h3 b0 b1 b2 b3 b4).mono ?_
  rintro e w ⟨⟨t, rfl, _⟩, rfl⟩
  unfold maxLen at b0 b1 b2 b3 b4
  cases t
  · as_aux_lemma =>
    go_wp2_with fail
    go_ret
    exact ⟨rfl, Below.refl _ _⟩
  by_cases x0 : 4096 < l0
  · as_aux_lemma =>
    go_wp2_with fail
    go_ret
    exact ⟨rfl, Below.refl _ _⟩
  by_cases x1 : 4096 < l1
  · as_aux_lemma =>
    go_wp2_with fail
    go_ret
    exact ⟨rfl, Below.refl _ _⟩
  by_cases x2 : 4096 < l2
  · as_aux_lemma =>
    go_wp2_with fail
    go_ret
    exact ⟨rfl, Below.refl _ _⟩
  by_cases x3 : 4096 < l3
  · as_aux_lemma =>
    go_wp2_with fail
    go_ret
    exact ⟨rfl, Below.refl _ _⟩
  by_cases x4 : 4096 < l4
  · as_aux_lemma =>
    go_wp2_with fail
    go_ret
    exact ⟨rfl, Below.refl _ _⟩
  go_wp2_with fail
  refine (zzB1StepsFit_any a0 a1 a2 a3 a4 l0 l1 l2 l3 l4 c0 c1 c2 c3 c4 U C Bd T _ h0 h1 h2 h3 (by omega)).mono ?_
  rintro e wz ⟨⟨t, rfl, hfit⟩, nz, hwz⟩
  subst hwz
  cases t
  · as_aux_lemma =>
    go_wp2_with fail
    go_ret
    exact ⟨rfl, bel_drewN (Below.refl _ _) _⟩
  obtain ⟨rfl, rfl, rfl, rfl⟩ := hfit rfl
  clear hfit
  have H0 : Hid (StrsAt (w.drewN nz) a0 l4 U) := h0
  have H1 : Hid (StrsAt (w.drewN nz) a1 l4 C) := h1
  have H2 : Hid (StrsAt (w.drewN nz) a2 l4 Bd) := h2
  have H3 : Hid (StrsAt (w.drewN nz) a3 l4 T) := h3
  have H4 : Hid (IntsAt (w.drewN nz) a4 l4 A) := h4
  clear h0 h1 h2 h3 h4 x0 x1 x2 x3 b0 b1 b2 b3 b4
  have HBZ : Hid (Below w.heap.size w (w.drewN nz)) := bel_drewN (Below.refl _ _) _
  go_upto_if 75 with fail
  go_cut [0] (fun s wc => ∃ a c, s = .slice a l4 c ∧ StrsAt wc a l4 U ∧ Below w.heap.size w wc ∧ Below (w.drewN nz).heap.size (w.drewN nz) wc)
  case first => as_aux_lemma =>
    cases a0 with
    | none =>
      have E0 : Hid (l4 = 0) := N0.out rfl
      go_wp2_with fail
      go_meet
      exact ⟨none, c0, rfl, .inl E0.out, HBZ.out, Below.refl _ _⟩
    | some ad =>
      have hmk := run_make_row' (P := Trym.prog) 30 9 (.string ⟨#[]⟩) 16 Trym.underlying30 info9 rfl .i64 .i64 l4 (by omega) (by omega)
      go_wp2_with (refine wpList_copy_full rfl _ _ 30 rfl 9 Trym.underlying30 size9 _ l4 _ _ rfl rfl _ (fun i => .string (U i)) (World.rowIs_made _ _ _ _) (H0.out.later (Nat.le_refl _) ((Below.refl _ _).alloc (Nat.le_refl _) _)).cells (fun i _ => rfl) ?_; intro wk hr hbk)
      go_meet
      exact ⟨_, _, rfl, H0.out.of_row hr, (HBZ.out.alloc HBZ.out.size _).trans (hbk.mono HBZ.out.size), ((Below.refl _ _).alloc (Nat.le_refl _) _).trans hbk⟩
  case rest => as_aux_lemma =>
  obtain ⟨e0, f0, rfl, hj, hbA, hbB⟩ := hcut
  have G0 : Hid (StrsAt wc e0 l4 U) := hj
  replace H1 : Hid (StrsAt wc a1 l4 C) := H1.out.later (Nat.le_refl _) hbB
  replace H2 : Hid (StrsAt wc a2 l4 Bd) := H2.out.later (Nat.le_refl _) hbB
  replace H3 : Hid (StrsAt wc a3 l4 T) := H3.out.later (Nat.le_refl _) hbB
  replace H4 : Hid (IntsAt wc a4 l4 A) := H4.out.later (Nat.le_refl _) hbB
  have HB0 : Hid (Below w.heap.size w wc) := hbA
  clear hj hbA hbB H0 N0 HBZ
  generalize hwk0 : wc = wk0 at *
  clear hwk0 wc
  go_upto_if 84 with fail
  go_cut [1] (fun s wc => ∃ a c, s = .slice a l4 c ∧ StrsAt wc a l4 C ∧ Below w.heap.size w wc ∧ Below (wk0).heap.size (wk0) wc)
  case first => as_aux_lemma =>
    cases a1 with
    | none =>
      have E0 : Hid (l4 = 0) := N1.out rfl
      go_wp2_with fail
      go_meet
      exact ⟨none, c1, rfl, .inl E0.out, HB0.out, Below.refl _ _⟩
    | some ad =>
      have hmk := run_make_row' (P := Trym.prog) 30 9 (.string ⟨#[]⟩) 16 Trym.underlying30 info9 rfl .i64 .i64 l4 (by omega) (by omega)
      go_wp2_with (refine wpList_copy_full rfl _ _ 30 rfl 9 Trym.underlying30 size9 _ l4 _ _ rfl rfl _ (fun i => .string (C i)) (World.rowIs_made _ _ _ _) (H1.out.later (Nat.le_refl _) ((Below.refl _ _).alloc (Nat.le_refl _) _)).cells (fun i _ => rfl) ?_; intro wk hr hbk)
      go_meet
      exact ⟨_, _, rfl, H1.out.of_row hr, (HB0.out.alloc HB0.out.size _).trans (hbk.mono HB0.out.size), ((Below.refl _ _).alloc (Nat.le_refl _) _).trans hbk⟩
  case rest => as_aux_lemma =>
  obtain ⟨e1, f1, rfl, hj, hbA, hbB⟩ := hcut
  have G1 : Hid (StrsAt wc e1 l4 C) := hj
  replace G0 : Hid (StrsAt wc e0 l4 U) := G0.out.later (Nat.le_refl _) hbB
  replace H2 : Hid (StrsAt wc a2 l4 Bd) := H2.out.later (Nat.le_refl _) hbB
  replace H3 : Hid (StrsAt wc a3 l4 T) := H3.out.later (Nat.le_refl _) hbB
  replace H4 : Hid (IntsAt wc a4 l4 A) := H4.out.later (Nat.le_refl _) hbB
  have HB1 : Hid (Below w.heap.size w wc) := hbA
  clear hj hbA hbB H1 N1 HB0
  generalize hwk1 : wc = wk1 at *
  clear hwk1 wc
  go_upto_if 93 with fail
  go_cut [2] (fun s wc => ∃ a c, s = .slice a l4 c ∧ StrsAt wc a l4 Bd ∧ Below w.heap.size w wc ∧ Below (wk1).heap.size (wk1) wc)
  case first => as_aux_lemma =>
    cases a2 with
    | none =>
      have E0 : Hid (l4 = 0) := N2.out rfl
      go_wp2_with fail
      go_meet
      exact ⟨none, c2, rfl, .inl E0.out, HB1.out, Below.refl _ _⟩
    | some ad =>
      have hmk := run_make_row' (P := Trym.prog) 30 9 (.string ⟨#[]⟩) 16 Trym.underlying30 info9 rfl .i64 .i64 l4 (by omega) (by omega)
      go_wp2_with (refine wpList_copy_full rfl _ _ 30 rfl 9 Trym.underlying30 size9 _ l4 _ _ rfl rfl _ (fun i => .string (Bd i)) (World.rowIs_made _ _ _ _) (H2.out.later (Nat.le_refl _) ((Below.refl _ _).alloc (Nat.le_refl _) _)).cells (fun i _ => rfl) ?_; intro wk hr hbk)
      go_meet
      exact ⟨_, _, rfl, H2.out.of_row hr, (HB1.out.alloc HB1.out.size _).trans (hbk.mono HB1.out.size), ((Below.refl _ _).alloc (Nat.le_refl _) _).trans hbk⟩
  case rest => as_aux_lemma =>
  obtain ⟨e2, f2, rfl, hj, hbA, hbB⟩ := hcut
  have G2 : Hid (StrsAt wc e2 l4 Bd) := hj
  replace G0 : Hid (StrsAt wc e0 l4 U) := G0.out.later (Nat.le_refl _) hbB
  replace G1 : Hid (StrsAt wc e1 l4 C) := G1.out.later (Nat.le_refl _) hbB
  replace H3 : Hid (StrsAt wc a3 l4 T) := H3.out.later (Nat.le_refl _) hbB
  replace H4 : Hid (IntsAt wc a4 l4 A) := H4.out.later (Nat.le_refl _) hbB
  have HB2 : Hid (Below w.heap.size w wc) := hbA
  clear hj hbA hbB H2 N2 HB1
  generalize hwk2 : wc = wk2 at *
  clear hwk2 wc
  go_upto_if 102 with fail
  go_cut [3] (fun s wc => ∃ a c, s = .slice a l4 c ∧ StrsAt wc a l4 T ∧ Below w.heap.size w wc ∧ Below (wk2).heap.size (wk2) wc)
  case first => as_aux_lemma =>
    cases a3 with
    | none =>
      have E0 : Hid (l4 = 0) := N3.out rfl
      go_wp2_with fail
      go_meet
      exact ⟨none, c3, rfl, .inl E0.out, HB2.out, Below.refl _ _⟩
    | some ad =>
      have hmk := run_make_row' (P := Trym.prog) 30 9 (.string ⟨#[]⟩) 16 Trym.underlying30 info9 rfl .i64 .i64 l4 (by omega) (by omega)
      go_wp2_with (refine wpList_copy_full rfl _ _ 30 rfl 9 Trym.underlying30 size9 _ l4 _ _ rfl rfl _ (fun i => .string (T i)) (World.rowIs_made _ _ _ _) (H3.out.later (Nat.le_refl _) ((Below.refl _ _).alloc (Nat.le_refl _) _)).cells (fun i _ => rfl) ?_; intro wk hr hbk)
      go_meet
      exact ⟨_, _, rfl, H3.out.of_row hr, (HB2.out.alloc HB2.out.size _).trans (hbk.mono HB2.out.size), ((Below.refl _ _).alloc (Nat.le_refl _) _).trans hbk⟩
  case rest => as_aux_lemma =>
  obtain ⟨e3, f3, rfl, hj, hbA, hbB⟩ := hcut
  have G3 : Hid (StrsAt wc e3 l4 T) := hj
  replace G0 : Hid (StrsAt wc e0 l4 U) := G0.out.later (Nat.le_refl _) hbB
  replace G1 : Hid (StrsAt wc e1 l4 C) := G1.out.later (Nat.le_refl _) hbB
  replace G2 : Hid (StrsAt wc e2 l4 Bd) := G2.out.later (Nat.le_refl _) hbB
  replace H4 : Hid (IntsAt wc a4 l4 A) := H4.out.later (Nat.le_refl _) hbB
  have HB3 : Hid (Below w.heap.size w wc) := hbA
  clear hj hbA hbB H3 N3 HB2
  generalize hwk3 : wc = wk3 at *
  clear hwk3 wc
  go_upto_if 111 with fail
  go_cut [4] (fun s wc => ∃ a c, s = .slice a l4 c ∧ IntsAt wc a l4 A ∧ Below w.heap.size w wc ∧ Below (wk3).heap.size (wk3) wc)
  case first => as_aux_lemma =>
    cases a4 with
    | none =>
      have E0 : Hid (l4 = 0) := N4.out rfl
      go_wp2_with fail
      go_meet
      exact ⟨none, c4, rfl, .inl E0.out, HB3.out, Below.refl _ _⟩
    | some ad =>
      have hmk := run_make_row' (P := Trym.prog) 31 3 (.int .i64 0) 8 Trym.underlying31 info3 rfl .i64 .i64 l4 (by omega) (by omega)
      go_wp2_with (refine wpList_copy_full rfl _ _ 31 rfl 3 Trym.underlying31 size3 _ l4 _ _ rfl rfl _ (fun i => .int .i64 (A i)) (World.rowIs_made _ _ _ _) (H4.out.later (Nat.le_refl _) ((Below.refl _ _).alloc (Nat.le_refl _) _)).cells (fun i _ => rfl) ?_; intro wk hr hbk)
      go_meet
      exact ⟨_, _, rfl, IntsAt.of_row hr, (HB3.out.alloc HB3.out.size _).trans (hbk.mono HB3.out.size), ((Below.refl _ _).alloc (Nat.le_refl _) _).trans hbk⟩
  case rest => as_aux_lemma =>
  obtain ⟨e4, f4, rfl, hj, hbA, hbB⟩ := hcut
  have G4 : Hid (IntsAt wc e4 l4 A) := hj
  replace G0 : Hid (StrsAt wc e0 l4 U) := G0.out.later (Nat.le_refl _) hbB
  replace G1 : Hid (StrsAt wc e1 l4 C) := G1.out.later (Nat.le_refl _) hbB
  replace G2 : Hid (StrsAt wc e2 l4 Bd) := G2.out.later (Nat.le_refl _) hbB
  replace G3 : Hid (StrsAt wc e3 l4 T) := G3.out.later (Nat.le_refl _) hbB
  have HB4 : Hid (Below w.heap.size w wc) := hbA
  clear hj hbA hbB H4 N4 HB3
  by_cases hfr : (l4 : Int) ≤ fr
  · as_aux_lemma =>
    go_wp2_with fail
    go_ret
    exact ⟨rfl, HB4.out⟩
  obtain ⟨q0, HQ⟩ : ∃ q0, Hid ((fr + 1).toNat = q0) := ⟨_, rfl⟩
  have hq0 : q0 ≤ l4 := by have := HQ.out; omega
  obtain ⟨i0, hi, hz0, hz1, hz2⟩ := info_parts info3
  have HB8 : Hid (i0.bytes * l4 ≤ 281474976710656) := by unfold Hid; rw [hz2]; omega
  have HML : Hid (l4 ≤ maxLen) := by unfold Hid maxLen; omega
  go_wp2_with (at_make; refine wpList_make_own _ rfl _ _ 31 rfl wc.heap.size 3 i0 (.int .i64 0) 1 Trym.underlying31 hi hz0 hz1 .i64 .i64 _ l4 rfl rfl rfl HB8.out HML.out (Nat.le_refl _) ?_; intro wm hown hgrow)
  go_loopw [23, 24] (fun v i wr => ∃ (k g cap : Nat), k ≤ q0 ∧ i = .int .i64 k ∧ v = .slice (some ⟨g, 0, none⟩) (M (Zof C) k) cap ∧ wr.ownsRow wc.heap.size 3 1 (.slice (some ⟨g, 0, none⟩) (M (Zof C) k) cap) (M (Zof C) k) ((L (Zof C) k).map fun (i : Nat) => .int .i64 i) ∧ Below wc.heap.size wc wr) (fun _ i _ => l4 - (intOf i).toNat)
  case atStart => exact ⟨0, wc.heap.size, l4, Nat.zero_le _, rfl, rfl, hown, (Below.refl _ _).grown hgrow (Nat.le_refl _) (fun j e => by cases e)⟩
  case round =>
    rename World => w3
    obtain ⟨k, g, cap, hk, rfl, rfl, hownk, hbel⟩ := hrel
    clear hown hgrow
    by_cases hlt : k < q0
    · as_aux_lemma =>
      have hkf : (k : Int) ≤ fr := by have := HQ.out; omega
      have hkl : (k : Int) < (l4 : Int) := by omega
      obtain ⟨b, off, rfl, s1, _⟩ := G1.out.at (i := k) (by omega)
      have t1 := (hbel.cell (p := ⟨b, off + k, none⟩) (cell_lt s1)).trans s1
      have HO : Hid (w3.ownsRow wc.heap.size 3 1 (.slice (some ⟨g, 0, none⟩) (M (Zof C) k) cap) (M (Zof C) k) ((L (Zof C) k).map fun (i : Nat) => .int .i64 i)) := hownk
      have HBL : Hid (Below wc.heap.size wc w3) := hbel
      clear hownk hbel s1
      cases hz : Zof C k
      · have hz' : (C k).toList.isEmpty = false := hz
        have hMk := M_le (Zof C) k
        have H63 : Hid (M (Zof C) k + 1 ≤ maxLen) := by unfold Hid maxLen; omega
        have H8 : Hid ((M (Zof C) k + 1) * 8 ≤ 140737488355328) := by unfold Hid; omega
        have HBS : Hid (wc.heap.size ≤ (w3.alloc (.cells #[.int .i64 (k : Int)] 3)).heap.size) := by unfold Hid; have := HBL.out.size; simp; omega
        go_wp2_with (at_builtin; refine wpList_append_lies _ rfl _ _ 31 rfl wc.heap.size 3 i0 (.int .i64 0) 1 8 Trym.underlying31 hi hz0 hz1 hz2 rfl (by decide) _ _ _ rfl (HO.out.alloc _) ⟨w3.heap.size, 0, none⟩ 1 1 [.int .i64 (k : Int)] rfl rfl (cell_one_new _ _ _) (by simp [Value.oneCell']) (by decide) H63.out H8.out HBS.out _ rfl ?_; intro g2 cap2 w1 hown1 hgrow1 hat hglt)
        go_roundw
        case rel =>
          have eM := M_no (Z := Zof C) hz
          have eL := L_no (Z := Zof C) hz
          refine ⟨k + 1, g2, cap2, by omega, by go_num, by rw [eM], ?_, ?_⟩
          · rw [eM, eL, List.map_append]
            exact hown1
          · exact (HBL.out.alloc HBL.out.size _).grown hgrow1 HBS.out (fun j e => by
              rcases HO.out.2 with ⟨e1, _⟩ | ⟨g', _, _, e1, hg', _⟩
              · cases e1
              · injection e1 with e1 _ _; injection e1 with e1; injection e1 with e1 _ _; injection e with e; simp at e; omega)
        case measure => simp [intOf]; omega
      · have hz' : (C k).toList.isEmpty = true := hz
        go_wp2_with fail
        go_roundw
        case rel =>
          have eM := M_yes (Z := Zof C) hz
          have eL := L_yes (Z := Zof C) hz
          exact ⟨k + 1, g, cap, by omega, by go_num, by rw [eM], by rw [eM, eL]; exact HO.out, HBL.out⟩
        case measure => simp [intOf]; omega
    have hkq : k = q0 := by omega
    subst hkq
    go_upto_region 40 with fail
    go_cut [133] (fun s wx => s = .bool false ∧ w3 = wx)
    case first => as_aux_lemma =>
      have hkf : ¬ (k : Int) ≤ fr := by have := HQ.out; omega
      by_cases hkl : (k : Int) < (l4 : Int)
      · go_wp2_with fail
        go_meet
        exact ⟨rfl, rfl⟩
      · go_wp2_with fail
        go_meet
        exact ⟨rfl, rfl⟩
    case rest => as_aux_lemma =>
    obtain ⟨rfl, rfl⟩ := hcut
    have HI : Hid (∀ m j : Nat, (L (Zof C) k)[m]? = some j → w3.cell? ⟨g, m, none⟩ = some (.int .i64 j)) := by
      intro m j hj
      have hm := (List.getElem?_eq_some_iff.1 hj).1
      have := hownk.cellAt m (by rw [Nat.mul_one]; exact hm)
      rw [this, List.getElem?_map, hj]
      rfl
    have HGL : Hid (g < w3.heap.size) := by
      unfold Hid
      rcases hownk.2 with ⟨e1, _⟩ | ⟨g', _, cur, e1, _, hg', _⟩
      · cases e1
      · injection e1 with e1 _ _; injection e1 with e1; injection e1 with e1 _ _; subst e1
        exact (Array.getElem?_eq_some_iff.1 hg').1
    have HBW : Hid (Below w.heap.size w w3) := HB4.out.trans (hbel.mono HB4.out.size)
    replace G0 : Hid (StrsAt w3 e0 l4 U) := G0.out.later (Nat.le_refl _) hbel
    replace G1 : Hid (StrsAt w3 e1 l4 C) := G1.out.later (Nat.le_refl _) hbel
    replace G2 : Hid (StrsAt w3 e2 l4 Bd) := G2.out.later (Nat.le_refl _) hbel
    replace G3 : Hid (StrsAt w3 e3 l4 T) := G3.out.later (Nat.le_refl _) hbel
    replace G4 : Hid (IntsAt w3 e4 l4 A) := G4.out.later (Nat.le_refl _) hbel
    clear hownk hbel HB4 hi hz0 hz1 hz2 HB8 HML
    have hMq := M_le (Zof C) k
    go_wp2_with fail
    refine (ZZB1NewSaga_any e0 e1 e2 e3 e4 l4 f0 f1 f2 f3 f4 U C Bd T A nx _ G0.out G1.out G2.out G3.out G4.out (by omega)).mono ?_
    rintro e ws ⟨rfl, ⟨sao, scap, hsg⟩, hbs⟩
    have HSG : Hid (Sg ws w3.heap.size w3.heap.size sao scap l4 (FP U C Bd T A (Zof C) k k) compensating nx 0) := hsg.congr (fun i _ j _ => (FP_start U C Bd T A (Zof C) k i j).symm)
    have HBS : Hid (Below w3.heap.size w3 ws) := hbs
    clear hsg hbs
    go_wp2_with fail
    refine (ZZB1CompensateFrom_any _ w3.heap.size w3.heap.size sao scap l4 U C Bd T A k k nx fr at_ HSG.out (by omega) (Nat.le_refl _) hq0 HQ.out hlo).mono ?_
    rintro e w5 ⟨rfl, hcomp, hb5⟩
    have HR5 : Hid (RoundAt w5 w3.heap.size w3.heap.size sao scap l4 U C Bd T A k nx at_ ((M (Zof C) k : Nat) - 1 : Int) 0) := round_start hcomp
    have HB5 : Hid (Below w3.heap.size w3 w5) := HBS.out.trans hb5
    clear hcomp hb5 HSG HBS
    go_wp2_with fail
    go_loopw [26, 27] (fun kk r wx => ∃ (ki : Int) (rn : Nat), kk = .int .i64 ki ∧ r = .int .i64 rn ∧ RoundAt wx w3.heap.size w3.heap.size sao scap l4 U C Bd T A k nx at_ ki rn ∧ Below w3.heap.size w3 wx) (fun _ r _ => l4 + 1 - (intOf r).toNat)
    case atStart => exact ⟨_, 0, rfl, rfl, HR5.out, HB5.out⟩
    case round =>
      rename World => wx
      clear HR5 HB5 w5
      obtain ⟨ki, rn, rfl, rfl, hround, hbx⟩ := hrel
      rcases hround with ⟨j, hj, hzj, rfl, hrn, hsg⟩ | ⟨rfl, hrn, nf, hfin, hsg⟩
      · as_aux_lemma =>
        have hcs := lCompensating
        have hcell : wx.cell? ⟨g, M (Zof C) j, none⟩ = some (.int .i64 (j : Int)) := (hbx.cell (p := ⟨g, M (Zof C) j, none⟩) HGL.out).trans (HI.out _ j (L_at (Zof C) j hzj k hj))
        have hMj := M_le (Zof C) j
        have hMlt : ((M (Zof C) j : Nat) : Int) < ((M (Zof C) k : Nat) : Int) := by omega
        have hrn' : (rn : Int) ≤ (l4 : Int) := by omega
        have HSG : Hid (Sg wx w3.heap.size w3.heap.size sao scap l4 (FP U C Bd T A (Zof C) k j) compensating j 0) := hsg
        have HBX : Hid (Below w3.heap.size w3 wx) := hbx
        have HRN : Hid (rn + M (Zof C) j + 1 = M (Zof C) k) := hrn
        clear hsg hbx hrn
        go_wp2_with fail
        refine (ZZB1SagaHead_any _ w3.heap.size w3.heap.size sao scap l4 _ _ _ _ HSG.out).mono ?_
        rintro e wh ⟨rfl, nh, hwh⟩
        subst hwh
        go_wp2_with fail
        refine (ZZB1CompensateFrom_any _ w3.heap.size w3.heap.size sao scap l4 U C Bd T A k j (j : Int) ((j : Int) - 1) at_ (HSG.out.later (Nat.le_refl _) (bel_drewN (Below.refl _ _) _)) (by omega) (Nat.le_of_lt hj) hq0 (by omega) (by omega)).mono ?_
        rintro e w6 ⟨rfl, hcomp, hb6⟩
        go_wp2_with fail
        go_roundw
        case rel => exact ⟨_, rn + 1, rfl, by go_num, round_next hj hzj HRN.out hq0 hcomp, (bel_drewN HBX.out nh).trans hb6⟩
        case measure => simp [intOf]; omega
      · as_aux_lemma =>
        have hcs := lCompensated
        have hrn' : (rn : Int) ≤ (l4 : Int) := by omega
        have HSG : Hid (Sg wx w3.heap.size w3.heap.size sao scap l4 (FE (FP U C Bd T A (Zof C) k 0) l4) compensated nf at_) := hsg
        have HBX : Hid (Below w3.heap.size w3 wx) := hbx
        have HFIN : Hid (Fin C k nx nf) := hfin
        clear hsg hbx hfin hrn
        go_wp2_with fail
        refine (ZZB1SagaHead_any _ w3.heap.size w3.heap.size sao scap l4 _ _ _ _ HSG.out).mono ?_
        rintro e wh ⟨rfl, nh, hwh⟩
        subst hwh
        go_wp2_with fail
        refine (ZZB1SagaHead_any _ w3.heap.size w3.heap.size sao scap l4 _ _ _ _ (HSG.out.later (Nat.le_refl _) (bel_drewN (Below.refl _ _) _))).mono ?_
        rintro e wh2 ⟨rfl, nh2, hwh2⟩
        subst hwh2
        go_upto_if 198 with fail
        go_cut [34] (fun s wq => s = .int .i64 nf ∧ wx.drewN (nh + nh2) = wq)
        case first => as_aux_lemma =>
          rcases HFIN.out with ⟨hM0, e⟩ | ⟨j0, hj0, e⟩
          · have hM1 : ((M (Zof C) k : Nat) : Int) ≤ 0 := by omega
            have HE : Hid (nf = nx) := e
            clear hM0 e
            go_wp2_with fail
            go_meet
            exact ⟨by rw [HE.out], rfl⟩
          · have hM1 : (0 : Int) < ((M (Zof C) k : Nat) : Int) := by have := (List.getElem?_eq_some_iff.1 hj0).1; unfold M; omega
            have c0 : wx.cell? ⟨g, 0, none⟩ = some (.int .i64 (j0 : Int)) := (HBX.out.cell (p := ⟨g, 0, none⟩) HGL.out).trans (HI.out 0 j0 hj0)
            have HE : Hid (nf = (j0 : Int)) := e
            clear e hj0
            go_wp2_with fail
            go_meet
            exact ⟨by rw [HE.out], rfl⟩
        case rest => as_aux_lemma =>
        obtain ⟨rfl, rfl⟩ := hcut
        go_wp2_with fail
        go_loopw [35] (fun i wy => ∃ m : Nat, m ≤ l4 ∧ i = .int .i64 m ∧ Below wx.heap.size wx wy) (fun i _ => l4 - (intOf i).toNat)
        case atStart => exact ⟨0, Nat.zero_le _, rfl, bel_drewN (Below.refl _ _) _⟩
        case round =>
          rename World => wy
          obtain ⟨m, hm, rfl, hby⟩ := hrel
          by_cases hlt : m < l4
          · obtain ⟨d0, d1, d2, d3, d4⟩ := FE_end U C Bd T A k l4 m hlt
            have HSY : Hid (Sg wy w3.heap.size w3.heap.size sao scap l4 (FE (FP U C Bd T A (Zof C) k 0) l4) compensated nf at_) := HSG.out.later (Nat.le_refl _) hby
            have HBY : Hid (Below w3.heap.size w3 wy) := HBX.out.trans (hby.mono HBX.out.size)
            have HBB : Hid (Below wx.heap.size wx wy) := hby
            obtain ⟨b1, o1, rfl, s1, _⟩ := G1.out.at hlt
            obtain ⟨b3, o3, rfl, s3, _⟩ := G3.out.at hlt
            obtain ⟨b4, o4, rfl, s4⟩ := G4.out.at hlt
            have t1 := (HBY.out.cell (p := ⟨b1, o1 + m, none⟩) (cell_lt s1)).trans s1
            have t3 := (HBY.out.cell (p := ⟨b3, o3 + m, none⟩) (cell_lt s3)).trans s3
            have t4 := (HBY.out.cell (p := ⟨b4, o4 + m, none⟩) (cell_lt s4)).trans s4
            have hmi : (m : Int) < (l4 : Int) := by omega
            have D3 : Hid (FE (FP U C Bd T A (Zof C) k 0) l4 m 3 = .string (if m < k ∧ Zof C m = true then passedOver else T m)) := d3
            have D0 : Hid (FE (FP U C Bd T A (Zof C) k 0) l4 m 0 = .string ⟨#[]⟩) := d0
            have D1 : Hid (FE (FP U C Bd T A (Zof C) k 0) l4 m 1 = .string ⟨#[]⟩) := d1
            have D2 : Hid (FE (FP U C Bd T A (Zof C) k 0) l4 m 2 = .string ⟨#[]⟩) := d2
            have D4 : Hid (FE (FP U C Bd T A (Zof C) k 0) l4 m 4 = .int .i64 (A m)) := d4
            clear s1 s3 s4 hby d0 d1 d2 d3 d4
            have hp : (passedOver.toList == [112, 97, 115, 115, 101, 100, 95, 111, 118, 101, 114]) = true := by rw [lPassed]; rfl
            by_cases hmk : m < k
            · have hmf : (m : Int) ≤ fr := by have := HQ.out; omega
              cases hz : Zof C m
              · as_aux_lemma =>
                have hz' : (C m).toList.isEmpty = false := hz
                rw [if_neg (by rw [hz]; simp)] at D3
                go_wp2_with fail
                refine (ZZB1SagaStep_any _ w3.heap.size w3.heap.size sao scap l4 _ _ _ _ HSY.out (by omega) m hlt _ _ _ _ _ D0.out D1.out D2.out D3.out D4.out).mono ?_
                rintro e wz ⟨rfl, hbz⟩
                have r1 := (hbz.cell (p := ⟨b1, o1 + m, none⟩) (cell_lt t1)).trans t1
                have r3 := (hbz.cell (p := ⟨b3, o3 + m, none⟩) (cell_lt t3)).trans t3
                have r4 := (hbz.cell (p := ⟨b4, o4 + m, none⟩) (cell_lt t4)).trans t4
                have HBZ : Hid (Below wy.heap.size wy wz) := hbz
                clear hbz
                go_wp2_with fail
                go_roundw
                case rel => exact ⟨m + 1, by omega, by go_num, HBB.out.trans (HBZ.out.mono HBB.out.size)⟩
                case measure => simp [intOf]; omega
              · as_aux_lemma =>
                have hz' : (C m).toList.isEmpty = true := hz
                rw [if_pos ⟨hmk, hz⟩] at D3
                go_wp2_with fail
                refine (ZZB1SagaStep_any _ w3.heap.size w3.heap.size sao scap l4 _ _ _ _ HSY.out (by omega) m hlt _ _ _ _ _ D0.out D1.out D2.out D3.out D4.out).mono ?_
                rintro e wz ⟨rfl, hbz⟩
                have r1 := (hbz.cell (p := ⟨b1, o1 + m, none⟩) (cell_lt t1)).trans t1
                have r3 := (hbz.cell (p := ⟨b3, o3 + m, none⟩) (cell_lt t3)).trans t3
                have r4 := (hbz.cell (p := ⟨b4, o4 + m, none⟩) (cell_lt t4)).trans t4
                have HBZ : Hid (Below wy.heap.size wy wz) := hbz
                clear hbz
                go_wp2_with fail
                go_roundw
                case rel => exact ⟨m + 1, by omega, by go_num, HBB.out.trans (HBZ.out.mono HBB.out.size)⟩
                case measure => simp [intOf]; omega
            · as_aux_lemma =>
              have hmf : ¬ (m : Int) ≤ fr := by have := HQ.out; omega
              rw [if_neg (fun h => hmk h.1)] at D3
              go_wp2_with fail
              refine (ZZB1SagaStep_any _ w3.heap.size w3.heap.size sao scap l4 _ _ _ _ HSY.out (by omega) m hlt _ _ _ _ _ D0.out D1.out D2.out D3.out D4.out).mono ?_
              rintro e wz ⟨rfl, hbz⟩
              have r1 := (hbz.cell (p := ⟨b1, o1 + m, none⟩) (cell_lt t1)).trans t1
              have r3 := (hbz.cell (p := ⟨b3, o3 + m, none⟩) (cell_lt t3)).trans t3
              have r4 := (hbz.cell (p := ⟨b4, o4 + m, none⟩) (cell_lt t4)).trans t4
              have HBZ : Hid (Below wy.heap.size wy wz) := hbz
              clear hbz
              go_wp2_with fail
              go_roundw
              case rel => exact ⟨m + 1, by omega, by go_num, HBB.out.trans (HBZ.out.mono HBB.out.size)⟩
              case measure => simp [intOf]; omega
          · as_aux_lemma =>
            go_wp2_with fail
            go_ret
            exact ⟨rfl, HBW.out.trans ((HBX.out.trans (hby.mono HBX.out.size)).mono HBW.out.size)⟩

end Go.Proofs.Qxb6614692aMods
