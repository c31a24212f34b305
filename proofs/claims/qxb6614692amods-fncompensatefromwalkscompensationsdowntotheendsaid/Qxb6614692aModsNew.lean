/-
  ZZB1NewSaga.
-/
import Derived.Test.Qxb6614692aModsSaga
import Derived.Deep.RegionHeld3
import Derived.Deep.DrawnRows
import Derived.Deep.AppendLies
import Derived.OwnWalk
namespace Go.Proofs.Qxb6614692aMods
open Go.RowKit

theorem info76 : (Trym.prog.info? 76).map (fun i => (i.zero, i.size, i.bytes)) = some (some (.agg #[.string ⟨#[]⟩, .string ⟨#[]⟩, .string ⟨#[]⟩, .string ⟨#[]⟩, .int .i64 0]), 5, 72) := by kernel_rfl
theorem cell_lt {w : World} {a : Addr} {v : Value} (h : w.cell? a = some v) : a.block < w.heap.size := World.block_lt_of_cell? w a h

/-- The saga's own block, while its steps are being appended. -/
def Box (w : World) (b : Nat) (v : Value) (nx : Int) : Prop := ∃ f, w.rowIs b 71 61 f ∧ f 16 = .string compensating ∧ f 52 = v ∧ f 53 = .int .i64 nx ∧ f 54 = .int .i64 0
theorem Box.c52 {w : World} {b : Nat} {v : Value} {nx : Int} (h : Box w b v nx) : w.cell? ⟨b, 52, none⟩ = some v := by
  obtain ⟨f, hr, _, e, _⟩ := h; rw [← e]; exact hr.cell (by omega)
theorem Box.fz {w : World} {b : Nat} {v : Value} {nx : Int} (h : Box w b v nx) (o : Nat) : w.frozen? ⟨b, o, none⟩ = false := by
  obtain ⟨f, hr, _⟩ := h; exact hr.frozen o
theorem Box.of_block {w w' : World} {b : Nat} {v : Value} {nx : Int} (h : Box w b v nx) (e : w'.heap[b]? = w.heap[b]?) : Box w' b v nx := by
  obtain ⟨f, hr, r⟩ := h; exact ⟨f, hr.of_block e, r⟩
theorem Box.set {w : World} {b : Nat} {v : Value} {nx : Int} (h : Box w b v nx) (u : Value) : Box (w.setCell ⟨b, 52, none⟩ u) b u nx := by
  obtain ⟨f, hr, e1, e2, e3, e4⟩ := h
  exact ⟨_, hr.set 52 _, by simpa using e1, by simp, by simpa using e3, by simpa using e4⟩

theorem box_start (w : World) (nx : Int) (c : Array Value) (hc : c.size = 61) (h16 : c[16]? = some (.string compensating)) (h52 : c[52]? = some (.slice none 0 0)) (h53 : c[53]? = some (.int .i64 nx)) (h54 : c[54]? = some (.int .i64 0)) :
    Box (w.alloc (.cells c 71)) w.heap.size (.slice none 0 0) nx := by
  have hr := World.rowIs_alloc w c 71 (fun i => c[i]?.getD undef) (fun i hi => by simp [hi])
  rw [hc] at hr
  exact ⟨_, hr, by simp [h16], by simp [h52], by simp [h53], by simp [h54]⟩
theorem cell_far {w : World} {a p : Addr} {v : Value} (h : p.block ≠ a.block) : (w.setCell a v).cell? p = w.cell? p := World.cell?_of_block (Below.heap_setCell w a v p.block h)

set_option maxRecDepth 100000 in
set_option maxHeartbeats 3200000 in
theorem ZZB1NewSaga_any (a0 a1 a2 a3 a4 : Option Addr) (n c0 c1 c2 c3 c4 : Nat) (U C Bd T : Nat → ByteArray) (A : Nat → Int) (nx : Int) (w : World)
    (h0 : StrsAt w a0 n U) (h1 : StrsAt w a1 n C) (h2 : StrsAt w a2 n Bd) (h3 : StrsAt w a3 n T) (h4 : IntsAt w a4 n A) (hn : n ≤ 4096) :
    Calls Trym.prog 14 #[.slice a0 n c0, .slice a1 n c1, .slice a2 n c2, .slice a3 n c3, .slice a4 n c4, .int .i64 nx] w fun e w' =>
      e = .returned (.pointer (some ⟨w.heap.size, 0, none⟩)) ∧ (∃ ao cap, Sg w' w.heap.size w.heap.size ao cap n (cells0 U C Bd T A) compensating nx 0) ∧ Below w.heap.size w w' := by
  obtain ⟨i0, hi, hz0, hz1, hz2⟩ := info_parts info76
  go_enter Trym.func14, Trym.ntmps14
  go_wp2
  go_loopw [14] (fun i wr => ∃ (k : Nat) (v : Value), k ≤ n ∧ i = .int .i64 k ∧ Box wr w.heap.size v nx ∧ wr.ownsRow (w.heap.size + 1) 76 5 v k (rowOf (cells0 U C Bd T A) k) ∧ Below w.heap.size w wr) (fun i _ => n - (intOf i).toNat)
  case atStart => exact ⟨0, .slice none 0 0, by omega, rfl, box_start _ _ _ rfl rfl rfl rfl rfl, World.ownsRow_nil _ _ _ _, (Below.refl _ _).alloc (Nat.le_refl _) _⟩
  case round =>
    obtain ⟨k, v, hk, rfl, hbox, hown, hbel⟩ := hrel
    by_cases hlt : k < n
    · obtain ⟨p0, o0, rfl, s0, _⟩ := h0.at hlt
      obtain ⟨p1, o1, rfl, s1, _⟩ := h1.at hlt
      obtain ⟨p2, o2, rfl, s2, _⟩ := h2.at hlt
      obtain ⟨p3, o3, rfl, s3, _⟩ := h3.at hlt
      obtain ⟨p4, o4, rfl, s4⟩ := h4.at hlt
      have b0 := cell_lt s0
      have b1 := cell_lt s1
      have b2 := cell_lt s2
      have b3 := cell_lt s3
      have b4 := cell_lt s4
      have t0 := (hbel.cell (p := ⟨p0, o0 + k, none⟩) b0).trans s0
      have t1 := (hbel.cell (p := ⟨p1, o1 + k, none⟩) b1).trans s1
      have t2 := (hbel.cell (p := ⟨p2, o2 + k, none⟩) b2).trans s2
      have t3 := (hbel.cell (p := ⟨p3, o3 + k, none⟩) b3).trans s3
      have t4 := (hbel.cell (p := ⟨p4, o4 + k, none⟩) b4).trans s4
      have c52 := hbox.c52
      have f52 := hbox.fz 52
      have hki : (k : Int) < (n : Int) := by omega
      have HO : Hid (wr.ownsRow (w.heap.size + 1) 76 5 v k (rowOf (cells0 U C Bd T A) k)) := hown
      have HB : Hid _ := hbel
      have HX : Hid (Box wr w.heap.size v nx) := hbox
      clear s0 s1 s2 s3 s4 hown hbel hbox h0 h1 h2 h3 h4
      have hone : ∀ u ∈ [Value.string (U k), .string (C k), .string (Bd k), .string (T k), .int .i64 (A k)], u.oneCell' = true := by simp [Value.oneCell']
      have HNEW : Hid (∀ W : World, W.heap = (wr.alloc (.cells #[.string (U k), .string (C k), .string (Bd k), .string (T k), .int .i64 (A k)] 76)).heap → ∀ j u, [Value.string (U k), .string (C k), .string (Bd k), .string (T k), .int .i64 (A k)][j]? = some u → W.cell? ((⟨wr.heap.size, 0, none⟩ : Addr).add j) = some u) := by
        intro W hW j u hu
        refine World.news_of_block (cs := #[.string (U k), .string (C k), .string (Bd k), .string (T k), .int .i64 (A k)]) (t := 76) (fr := (0, 0)) ?_ j u hu
        rw [hW]
        exact Deep.blk_alloc_new _ _
      have HOWN : Hid (∀ W : World, W.heap = (wr.alloc (.cells #[.string (U k), .string (C k), .string (Bd k), .string (T k), .int .i64 (A k)] 76)).heap → W.ownsRow (w.heap.size + 1) 76 5 v k (rowOf (cells0 U C Bd T A) k)) := by
        intro W hW
        have h := HO.out.alloc (.cells #[.string (U k), .string (C k), .string (Bd k), .string (T k), .int .i64 (A k)] 76)
        unfold World.ownsRow at h ⊢
        rw [hW]
        exact h
      have HSZ : Hid (∀ W : World, W.heap = (wr.alloc (.cells #[.string (U k), .string (C k), .string (Bd k), .string (T k), .int .i64 (A k)] 76)).heap → W.heap.size = wr.heap.size + 1) := by
        intro W hW; rw [hW]; simp
      have HBS : Hid (∀ W : World, W.heap = (wr.alloc (.cells #[.string (U k), .string (C k), .string (Bd k), .string (T k), .int .i64 (A k)] 76)).heap → w.heap.size + 1 ≤ W.heap.size) := by
        intro W hW; rw [HSZ.out W hW]; have := HB.out.size; omega
      have HFAR : Hid (∀ W w1 : World, W.heap = (wr.alloc (.cells #[.string (U k), .string (C k), .string (Bd k), .string (T k), .int .i64 (A k)] 76)).heap → W.grownBy w1 v.ownBlock → ∀ b, b ≤ w.heap.size → w1.heap[b]? = wr.heap[b]?) := by
        intro W w1 hW hg b hb
        have hlt : b < wr.heap.size := Nat.lt_of_le_of_lt hb (cell_lt c52)
        have hne : some b ≠ v.ownBlock := by
          rcases HO.out.2 with ⟨e, _⟩ | ⟨g, cp, cur, e, hg', _⟩
          · rw [e]; intro x; cases x
          · rw [e]; intro x; injection x with x; simp at x; omega
        have hlt2 : b < W.heap.size := by rw [HSZ.out W hW]; omega
        have e1 : W.heap[b]? = wr.heap[b]? := by rw [hW]; exact Deep.blk_alloc_lt _ _ _ hlt
        exact (hg.block b hlt2 hne).trans e1
      have HROW : Hid (∀ q, v.ownBlock = some q → w.heap.size ≤ q) := by
        intro q hq
        rcases HO.out.2 with ⟨e, _⟩ | ⟨g, cp, cur, e, hg', _⟩
        · rw [e] at hq; cases hq
        · rw [e] at hq; injection hq with hq; simp at hq; omega
      have H63 : Hid (k + 1 ≤ maxLen) := by unfold Hid maxLen; omega
      have H72 : Hid ((k + 1) * 72 ≤ 140737488355328) := by unfold Hid; omega
      go_wp2
      refine wp_region_held_drew (S := (fun w' : World => w'.cell? ⟨p0, o0 + k, none⟩ = some (.string (U k)) ∧ w'.cell? ⟨p1, o1 + k, none⟩ = some (.string (C k)) ∧ w'.cell? ⟨p2, o2 + k, none⟩ = some (.string (Bd k)) ∧ w'.cell? ⟨p3, o3 + k, none⟩ = some (.string (T k)) ∧ w'.cell? ⟨p4, o4 + k, none⟩ = some (.int .i64 (A k)))) (by kernel_rfl) ⟨t0, t1, t2, t3, t4⟩ (fun hHeld => ?_)
      simp only [List.size_toArray, List.length_cons, List.length_nil, Nat.reduceAdd]
      refine wpAnyH_take (i := 0) (oi := _) (v := ?_) rfl (by kernel_rfl) (by kernel_rfl) (by kernel_rfl) (fun _ _ _ h => h) (Or.inl ⟨by rfl, ?_⟩) hHeld ?_
      rotate_left
      · intro w hSw
        go_simp
        try rfl
      simp only [List.getElem_toArray, List.getElem_cons_zero, Act.put, List.setIfInBounds_toArray, List.set_cons_zero, List.set_cons_succ]
      refine wpAnyH_take (i := 1) (oi := _) (v := ?_) rfl (by kernel_rfl) (by kernel_rfl) (by kernel_rfl) (fun _ _ _ h => h) (Or.inl ⟨by rfl, ?_⟩) hHeld ?_
      rotate_left
      · intro w hSw
        go_simp
        try rfl
      simp only [List.getElem_toArray, List.getElem_cons_zero, List.getElem_cons_succ, Act.put, List.setIfInBounds_toArray, List.set_cons_zero, List.set_cons_succ]
      refine wpAnyH_take (i := 2) (oi := _) (v := ?_) rfl (by kernel_rfl) (by kernel_rfl) (by kernel_rfl) (fun _ _ _ h => h) (Or.inl ⟨by rfl, ?_⟩) hHeld ?_
      rotate_left
      · intro w hSw
        go_simp
        try rfl
      simp only [List.getElem_toArray, List.getElem_cons_zero, List.getElem_cons_succ, Act.put, List.setIfInBounds_toArray, List.set_cons_zero, List.set_cons_succ]
      refine wpAnyH_take (i := 3) (oi := _) (v := ?_) rfl (by kernel_rfl) (by kernel_rfl) (by kernel_rfl) (fun _ _ _ h => h) (Or.inl ⟨by rfl, ?_⟩) hHeld ?_
      rotate_left
      · intro w hSw
        go_simp
        try rfl
      simp only [List.getElem_toArray, List.getElem_cons_zero, List.getElem_cons_succ, Act.put, List.setIfInBounds_toArray, List.set_cons_zero, List.set_cons_succ]
      refine wpAnyH_take (i := 5) (oi := _) (v := ?_) rfl (by kernel_rfl) (by kernel_rfl) (by kernel_rfl) (fun _ _ _ h => h) (Or.inl ⟨by rfl, ?_⟩) hHeld ?_
      rotate_left
      · intro w hSw
        go_simp
        try rfl
      simp only [List.getElem_toArray, List.getElem_cons_zero, List.getElem_cons_succ, Act.put, List.setIfInBounds_toArray, List.set_cons_zero, List.set_cons_succ]
      refine wpAnyH_take (i := 6) (oi := _) (v := ?_) rfl (by kernel_rfl) (by kernel_rfl) (by kernel_rfl) (fun _ _ _ h => h) (Or.inl ⟨by rfl, ?_⟩) hHeld ?_
      rotate_left
      · intro w hSw
        go_simp
        try rfl
      simp only [List.getElem_toArray, List.getElem_cons_zero, List.getElem_cons_succ, Act.put, List.setIfInBounds_toArray, List.set_cons_zero, List.set_cons_succ]
      refine wpAnyH_take (i := 7) (oi := _) (v := ?_) rfl (by kernel_rfl) (by kernel_rfl) (by kernel_rfl) (fun _ _ _ h => h) (Or.inl ⟨by rfl, ?_⟩) hHeld ?_
      rotate_left
      · intro w hSw
        go_simp
        try rfl
      simp only [List.getElem_toArray, List.getElem_cons_zero, List.getElem_cons_succ, Act.put, List.setIfInBounds_toArray, List.set_cons_zero, List.set_cons_succ]
      refine wpAnyH_take (i := 8) (oi := _) (v := ?_) rfl (by kernel_rfl) (by kernel_rfl) (by kernel_rfl) (fun _ _ _ h => h) (Or.inl ⟨by rfl, ?_⟩) hHeld ?_
      rotate_left
      · intro w hSw
        go_simp
        try rfl
      simp only [List.getElem_toArray, List.getElem_cons_zero, List.getElem_cons_succ, Act.put, List.setIfInBounds_toArray, List.set_cons_zero, List.set_cons_succ]
      refine wpAnyH_take (i := 9) (oi := _) (v := ?_) rfl (by kernel_rfl) (by kernel_rfl) (by kernel_rfl) (fun _ _ _ h => h) (Or.inl ⟨by rfl, ?_⟩) hHeld ?_
      rotate_left
      · intro w hSw
        go_simp
        try rfl
      simp only [List.getElem_toArray, List.getElem_cons_zero, List.getElem_cons_succ, Act.put, List.setIfInBounds_toArray, List.set_cons_zero, List.set_cons_succ]
      refine wpAnyH_take (i := 10) (oi := _) (v := ?_) rfl (by kernel_rfl) (by kernel_rfl) (by kernel_rfl) (fun _ _ _ h => h) (Or.inl ⟨by rfl, ?_⟩) hHeld ?_
      rotate_left
      · intro w hSw
        go_simp
        try rfl
      simp only [List.getElem_toArray, List.getElem_cons_zero, List.getElem_cons_succ, Act.put, List.setIfInBounds_toArray, List.set_cons_zero, List.set_cons_succ]
      refine wpAnyH_take (i := 11) (oi := _) (v := ?_) rfl (by kernel_rfl) (by kernel_rfl) (by kernel_rfl) (fun _ _ _ h => h) (Or.inl ⟨by rfl, ?_⟩) hHeld ?_
      rotate_left
      · intro w hSw
        go_simp
        try rfl
      simp only [List.getElem_toArray, List.getElem_cons_zero, List.getElem_cons_succ, Act.put, List.setIfInBounds_toArray, List.set_cons_zero, List.set_cons_succ]
      refine wpAnyH_take (i := 12) (oi := _) (v := ?_) rfl (by kernel_rfl) (by kernel_rfl) (by kernel_rfl) (fun _ _ _ h => h) (Or.inl ⟨by rfl, ?_⟩) hHeld ?_
      rotate_left
      · intro w hSw
        go_simp
        try rfl
      simp only [List.getElem_toArray, List.getElem_cons_zero, List.getElem_cons_succ, Act.put, List.setIfInBounds_toArray, List.set_cons_zero, List.set_cons_succ]
      refine wpAnyH_take (i := 13) (oi := _) (v := ?_) rfl (by kernel_rfl) (by kernel_rfl) (by kernel_rfl) (fun _ _ _ h => h) (Or.inl ⟨by rfl, ?_⟩) hHeld ?_
      rotate_left
      · intro w hSw
        go_simp
        try rfl
      simp only [List.getElem_toArray, List.getElem_cons_zero, List.getElem_cons_succ, Act.put, List.setIfInBounds_toArray, List.set_cons_zero, List.set_cons_succ]
      refine wpAnyH_take (i := 14) (oi := _) (v := ?_) rfl (by kernel_rfl) (by kernel_rfl) (by kernel_rfl) (fun _ _ _ h => h) (Or.inl ⟨by rfl, ?_⟩) hHeld ?_
      rotate_left
      · intro w hSw
        go_simp
        try rfl
      simp only [List.getElem_toArray, List.getElem_cons_zero, List.getElem_cons_succ, Act.put, List.setIfInBounds_toArray, List.set_cons_zero, List.set_cons_succ]
      refine wpAnyH_take (i := 15) (oi := _) (v := ?_) rfl (by kernel_rfl) (by kernel_rfl) (by kernel_rfl) (fun _ _ _ h => h) (Or.inl ⟨by rfl, ?_⟩) hHeld ?_
      rotate_left
      · intro w hSw
        go_simp
        try rfl
      simp only [List.getElem_toArray, List.getElem_cons_zero, List.getElem_cons_succ, Act.put, List.setIfInBounds_toArray, List.set_cons_zero, List.set_cons_succ]
      refine wpAnyH_take (i := 16) (oi := _) (v := ?_) rfl (by kernel_rfl) (by kernel_rfl) (by kernel_rfl) (fun _ _ _ h => h) (Or.inl ⟨by rfl, ?_⟩) hHeld ?_
      rotate_left
      · intro w hSw
        go_simp
        try rfl
      simp only [List.getElem_toArray, List.getElem_cons_zero, List.getElem_cons_succ, Act.put, List.setIfInBounds_toArray, List.set_cons_zero, List.set_cons_succ]
      refine wpAnyH_take (i := 17) (oi := _) (v := ?_) rfl (by kernel_rfl) (by kernel_rfl) (by kernel_rfl) (fun _ _ _ h => h) (Or.inl ⟨by rfl, ?_⟩) hHeld ?_
      rotate_left
      · intro w hSw
        go_simp
        try rfl
      simp only [List.getElem_toArray, List.getElem_cons_zero, List.getElem_cons_succ, Act.put, List.setIfInBounds_toArray, List.set_cons_zero, List.set_cons_succ]
      refine wpAnyH_take (i := 18) (oi := _) (v := ?_) rfl (by kernel_rfl) (by kernel_rfl) (by kernel_rfl) (fun _ _ _ h => h) (Or.inl ⟨by rfl, ?_⟩) hHeld ?_
      rotate_left
      · intro w hSw
        go_simp
        try rfl
      simp only [List.getElem_toArray, List.getElem_cons_zero, List.getElem_cons_succ, Act.put, List.setIfInBounds_toArray, List.set_cons_zero, List.set_cons_succ]
      refine wpAnyH_take (i := 19) (oi := _) (v := ?_) rfl (by kernel_rfl) (by kernel_rfl) (by kernel_rfl) (fun _ _ _ h => h) (Or.inl ⟨by rfl, ?_⟩) hHeld ?_
      rotate_left
      · intro w hSw
        go_simp
        try rfl
      simp only [List.getElem_toArray, List.getElem_cons_zero, List.getElem_cons_succ, Act.put, List.setIfInBounds_toArray, List.set_cons_zero, List.set_cons_succ]
      refine wpAnyH_take (i := 20) (oi := _) (v := ?_) rfl (by kernel_rfl) (by kernel_rfl) (by kernel_rfl) (fun _ _ _ h => h) (Or.inl ⟨by rfl, ?_⟩) hHeld ?_
      rotate_left
      · intro w hSw
        go_simp
        try rfl
      simp only [List.getElem_toArray, List.getElem_cons_zero, List.getElem_cons_succ, Act.put, List.setIfInBounds_toArray, List.set_cons_zero, List.set_cons_succ]
      refine wpAnyH_take (i := 21) (oi := _) (v := ?_) rfl (by kernel_rfl) (by kernel_rfl) (by kernel_rfl) (fun _ _ _ h => h) (Or.inl ⟨by rfl, ?_⟩) hHeld ?_
      rotate_left
      · intro w hSw
        go_simp
        try rfl
      simp only [List.getElem_toArray, List.getElem_cons_zero, List.getElem_cons_succ, Act.put, List.setIfInBounds_toArray, List.set_cons_zero, List.set_cons_succ]
      refine wpAnyH_take (i := 22) (oi := _) (v := ?_) rfl (by kernel_rfl) (by kernel_rfl) (by kernel_rfl) (fun _ _ _ h => h) (Or.inl ⟨by rfl, ?_⟩) hHeld ?_
      rotate_left
      · intro w hSw
        go_simp
        try rfl
      simp only [List.getElem_toArray, List.getElem_cons_zero, List.getElem_cons_succ, Act.put, List.setIfInBounds_toArray, List.set_cons_zero, List.set_cons_succ]
      refine wpAnyH_take (i := 23) (oi := _) (v := ?_) rfl (by kernel_rfl) (by kernel_rfl) (by kernel_rfl) (fun _ _ _ h => h) (Or.inl ⟨by rfl, ?_⟩) hHeld ?_
      rotate_left
      · intro w hSw
        go_simp
        try rfl
      simp only [List.getElem_toArray, List.getElem_cons_zero, List.getElem_cons_succ, Act.put, List.setIfInBounds_toArray, List.set_cons_zero, List.set_cons_succ]
      refine wpAnyH_take (i := 24) (oi := _) (v := ?_) rfl (by kernel_rfl) (by kernel_rfl) (by kernel_rfl) (fun _ _ _ h => h) (Or.inl ⟨by rfl, ?_⟩) hHeld ?_
      rotate_left
      · intro w hSw
        go_simp
        try rfl
      simp only [List.getElem_toArray, List.getElem_cons_zero, List.getElem_cons_succ, Act.put, List.setIfInBounds_toArray, List.set_cons_zero, List.set_cons_succ]
      refine wpAnyH_take (i := 25) (oi := _) (v := ?_) rfl (by kernel_rfl) (by kernel_rfl) (by kernel_rfl) (fun _ _ _ h => h) (Or.inl ⟨by rfl, ?_⟩) hHeld ?_
      rotate_left
      · intro w hSw
        go_simp
        try rfl
      simp only [List.getElem_toArray, List.getElem_cons_zero, List.getElem_cons_succ, Act.put, List.setIfInBounds_toArray, List.set_cons_zero, List.set_cons_succ]
      refine wpAnyH_take (i := 26) (oi := _) (v := ?_) rfl (by kernel_rfl) (by kernel_rfl) (by kernel_rfl) (fun _ _ _ h => h) (Or.inl ⟨by rfl, ?_⟩) hHeld ?_
      rotate_left
      · intro w hSw
        go_simp
        try rfl
      simp only [List.getElem_toArray, List.getElem_cons_zero, List.getElem_cons_succ, Act.put, List.setIfInBounds_toArray, List.set_cons_zero, List.set_cons_succ]
      have hl0 : w.heap.size < wr.heap.size := cell_lt c52
      have c52a : ∀ o, (wr.alloc o).cell? ⟨w.heap.size, 52, none⟩ = some v := fun o => (World.cell?_alloc_lt _ _ _ hl0).trans c52
      refine wpAnyH_ready (rs := [4, 27]) (by kernel_rfl) (by simp) ?_
      refine AllReadyH.cons (o := _) rfl (fun K hK => ?_) ?_
      · go_simp
        refine hK.out _ _ ⟨t0, t1, t2, t3, t4⟩ (fun hHeld => ?_)
        clear hK K
        refine wpAnyH_ready (rs := [27]) (by kernel_rfl) (by simp) ?_
        refine AllReadyH.cons (o := _) rfl (fun K hK => ?_) AllReadyH.nil
        go_simp
        refine hK.out _ _ ⟨(World.cell?_alloc_lt _ _ _ (Nat.lt_of_lt_of_le b0 HB.out.size)).trans t0, (World.cell?_alloc_lt _ _ _ (Nat.lt_of_lt_of_le b1 HB.out.size)).trans t1, (World.cell?_alloc_lt _ _ _ (Nat.lt_of_lt_of_le b2 HB.out.size)).trans t2, (World.cell?_alloc_lt _ _ _ (Nat.lt_of_lt_of_le b3 HB.out.size)).trans t3, (World.cell?_alloc_lt _ _ _ (Nat.lt_of_lt_of_le b4 HB.out.size)).trans t4⟩ (fun hHeld => ?_)
        clear hK K
        refine wpAnyH_ready (rs := [28]) (by kernel_rfl) (by simp) ?_
        refine AllReadyH.cons (o := _) rfl (fun K hK => ?_) AllReadyH.nil
        (refine step_append_lies _ (by rfl) _ _ _ (by rfl) (w.heap.size + 1) 76 i0 _ 5 72 Trym.underlying67 hi hz0 hz1 hz2 (by rfl) (by decide) v k _ (by rfl) (by exact HOWN.out _ rfl) ⟨wr.heap.size, 0, none⟩ 1 1 [.string (U k), .string (C k), .string (Bd k), .string (T k), .int .i64 (A k)] (by rfl) (by rfl) (by exact HNEW.out _ rfl) hone (by decide) H63.out H72.out (by exact HBS.out _ rfl) (wr.heap.size + 1) (by exact HSZ.out _ rfl) ?_)
        intro g cap w1 hown1 hgrow hat hglt
        have FB : Hid _ := (HFAR.out ((wr.alloc (.cells #[.string (U k), .string (C k), .string (Bd k), .string (T k), .int .i64 (A k)] 76)).drew) w1 rfl hgrow)
        have fr := fun (a : Addr) (ha : a.block ≤ w.heap.size) => And.intro (World.cell?_of_block (FB.out a.block ha)) (World.frozen?_of_block (FB.out a.block ha))
        have r52 := (fr ⟨w.heap.size, 52, none⟩ (Nat.le_refl _)).1.trans c52
        have g52 := (fr ⟨w.heap.size, 52, none⟩ (Nat.le_refl _)).2.trans f52
        have r0 := (fr ⟨p0, o0 + k, none⟩ (Nat.le_of_lt b0)).1.trans t0
        have r1 := (fr ⟨p1, o1 + k, none⟩ (Nat.le_of_lt b1)).1.trans t1
        have r2 := (fr ⟨p2, o2 + k, none⟩ (Nat.le_of_lt b2)).1.trans t2
        have r3 := (fr ⟨p3, o3 + k, none⟩ (Nat.le_of_lt b3)).1.trans t3
        have r4 := (fr ⟨p4, o4 + k, none⟩ (Nat.le_of_lt b4)).1.trans t4
        clear fr
        refine hK.out _ _ ⟨r0, r1, r2, r3, r4⟩ (fun hHeld => ?_)
        clear hK K
        simp only [List.getElem_toArray, List.getElem_cons_zero, List.getElem_cons_succ, Act.put, List.setIfInBounds_toArray, List.set_cons_zero, List.set_cons_succ]
        refine wpAnyH_take (i := 29) (oi := _) (v := ?_) rfl (by kernel_rfl) (by kernel_rfl) (by kernel_rfl) (fun _ _ _ h => h) (Or.inl ⟨by rfl, ?_⟩) hHeld ?_
        rotate_left
        · intro w hSw
          go_simp
          try rfl
        simp only [List.getElem_toArray, List.getElem_cons_zero, List.getElem_cons_succ, Act.put, List.setIfInBounds_toArray, List.set_cons_zero, List.set_cons_succ]
        refine wpAnyH_take (i := 30) (oi := _) (v := ?_) rfl (by kernel_rfl) (by kernel_rfl) (by kernel_rfl) (fun _ _ _ h => h) (Or.inl ⟨by rfl, ?_⟩) hHeld ?_
        rotate_left
        · intro w hSw
          go_simp
          try rfl
        simp only [List.getElem_toArray, List.getElem_cons_zero, List.getElem_cons_succ, Act.put, List.setIfInBounds_toArray, List.set_cons_zero, List.set_cons_succ]
        refine wpAnyH_ready (rs := [31]) (by kernel_rfl) (by simp) ?_
        refine AllReadyH.cons (o := _) rfl (fun K hK => ?_) AllReadyH.nil
        go_simp
        refine hK.out _ _ ⟨(cell_far (by simp; omega)).trans r0, (cell_far (by simp; omega)).trans r1, (cell_far (by simp; omega)).trans r2, (cell_far (by simp; omega)).trans r3, (cell_far (by simp; omega)).trans r4⟩ (fun hHeld => ?_)
        clear hK K
        refine wpAnyH_done (by kernel_rfl) ?_ _
        go_wp2
        go_roundw
        case rel =>
          refine ⟨k + 1, .slice (some ⟨g, 0, none⟩) (k + 1) cap, by omega, by go_num, (HX.out.of_block (FB.out _ (Nat.le_refl _))).set _, ownsRow_setCell_below hown1 (Nat.lt_succ_self _) _, ?_⟩
          exact (((HB.out.alloc HB.out.size _).drew.grown hgrow (by have := HB.out.size; simp; omega) HROW.out).setCell (Nat.le_refl _) _)
        case measure => simp [intOf]; omega
      · refine AllReadyH.cons (o := _) rfl (fun K hK => ?_) AllReadyH.nil
        go_simp
        refine hK.out _ _ ⟨(World.cell?_alloc_lt _ _ _ (Nat.lt_of_lt_of_le b0 HB.out.size)).trans t0, (World.cell?_alloc_lt _ _ _ (Nat.lt_of_lt_of_le b1 HB.out.size)).trans t1, (World.cell?_alloc_lt _ _ _ (Nat.lt_of_lt_of_le b2 HB.out.size)).trans t2, (World.cell?_alloc_lt _ _ _ (Nat.lt_of_lt_of_le b3 HB.out.size)).trans t3, (World.cell?_alloc_lt _ _ _ (Nat.lt_of_lt_of_le b4 HB.out.size)).trans t4⟩ (fun hHeld => ?_)
        clear hK K
        refine wpAnyH_ready (rs := [4]) (by kernel_rfl) (by simp) ?_
        refine AllReadyH.cons (o := _) rfl (fun K hK => ?_) AllReadyH.nil
        go_simp
        refine hK.out _ _ ⟨(World.cell?_alloc_lt _ _ _ (Nat.lt_of_lt_of_le b0 HB.out.size)).trans t0, (World.cell?_alloc_lt _ _ _ (Nat.lt_of_lt_of_le b1 HB.out.size)).trans t1, (World.cell?_alloc_lt _ _ _ (Nat.lt_of_lt_of_le b2 HB.out.size)).trans t2, (World.cell?_alloc_lt _ _ _ (Nat.lt_of_lt_of_le b3 HB.out.size)).trans t3, (World.cell?_alloc_lt _ _ _ (Nat.lt_of_lt_of_le b4 HB.out.size)).trans t4⟩ (fun hHeld => ?_)
        clear hK K
        refine wpAnyH_ready (rs := [28]) (by kernel_rfl) (by simp) ?_
        refine AllReadyH.cons (o := _) rfl (fun K hK => ?_) AllReadyH.nil
        (refine step_append_lies _ (by rfl) _ _ _ (by rfl) (w.heap.size + 1) 76 i0 _ 5 72 Trym.underlying67 hi hz0 hz1 hz2 (by rfl) (by decide) v k _ (by rfl) (by exact HOWN.out _ rfl) ⟨wr.heap.size, 0, none⟩ 1 1 [.string (U k), .string (C k), .string (Bd k), .string (T k), .int .i64 (A k)] (by rfl) (by rfl) (by exact HNEW.out _ rfl) hone (by decide) H63.out H72.out (by exact HBS.out _ rfl) (wr.heap.size + 1) (by exact HSZ.out _ rfl) ?_)
        intro g cap w1 hown1 hgrow hat hglt
        have FB : Hid _ := (HFAR.out ((wr.alloc (.cells #[.string (U k), .string (C k), .string (Bd k), .string (T k), .int .i64 (A k)] 76)).drew) w1 rfl hgrow)
        have fr := fun (a : Addr) (ha : a.block ≤ w.heap.size) => And.intro (World.cell?_of_block (FB.out a.block ha)) (World.frozen?_of_block (FB.out a.block ha))
        have r52 := (fr ⟨w.heap.size, 52, none⟩ (Nat.le_refl _)).1.trans c52
        have g52 := (fr ⟨w.heap.size, 52, none⟩ (Nat.le_refl _)).2.trans f52
        have r0 := (fr ⟨p0, o0 + k, none⟩ (Nat.le_of_lt b0)).1.trans t0
        have r1 := (fr ⟨p1, o1 + k, none⟩ (Nat.le_of_lt b1)).1.trans t1
        have r2 := (fr ⟨p2, o2 + k, none⟩ (Nat.le_of_lt b2)).1.trans t2
        have r3 := (fr ⟨p3, o3 + k, none⟩ (Nat.le_of_lt b3)).1.trans t3
        have r4 := (fr ⟨p4, o4 + k, none⟩ (Nat.le_of_lt b4)).1.trans t4
        clear fr
        refine hK.out _ _ ⟨r0, r1, r2, r3, r4⟩ (fun hHeld => ?_)
        clear hK K
        simp only [List.getElem_toArray, List.getElem_cons_zero, List.getElem_cons_succ, Act.put, List.setIfInBounds_toArray, List.set_cons_zero, List.set_cons_succ]
        refine wpAnyH_take (i := 29) (oi := _) (v := ?_) rfl (by kernel_rfl) (by kernel_rfl) (by kernel_rfl) (fun _ _ _ h => h) (Or.inl ⟨by rfl, ?_⟩) hHeld ?_
        rotate_left
        · intro w hSw
          go_simp
          try rfl
        simp only [List.getElem_toArray, List.getElem_cons_zero, List.getElem_cons_succ, Act.put, List.setIfInBounds_toArray, List.set_cons_zero, List.set_cons_succ]
        refine wpAnyH_take (i := 30) (oi := _) (v := ?_) rfl (by kernel_rfl) (by kernel_rfl) (by kernel_rfl) (fun _ _ _ h => h) (Or.inl ⟨by rfl, ?_⟩) hHeld ?_
        rotate_left
        · intro w hSw
          go_simp
          try rfl
        simp only [List.getElem_toArray, List.getElem_cons_zero, List.getElem_cons_succ, Act.put, List.setIfInBounds_toArray, List.set_cons_zero, List.set_cons_succ]
        refine wpAnyH_ready (rs := [31]) (by kernel_rfl) (by simp) ?_
        refine AllReadyH.cons (o := _) rfl (fun K hK => ?_) AllReadyH.nil
        go_simp
        refine hK.out _ _ ⟨(cell_far (by simp; omega)).trans r0, (cell_far (by simp; omega)).trans r1, (cell_far (by simp; omega)).trans r2, (cell_far (by simp; omega)).trans r3, (cell_far (by simp; omega)).trans r4⟩ (fun hHeld => ?_)
        clear hK K
        refine wpAnyH_done (by kernel_rfl) ?_ _
        go_wp2
        go_roundw
        case rel =>
          refine ⟨k + 1, .slice (some ⟨g, 0, none⟩) (k + 1) cap, by omega, by go_num, (HX.out.of_block (FB.out _ (Nat.le_refl _))).set _, ownsRow_setCell_below hown1 (Nat.lt_succ_self _) _, ?_⟩
          exact (((HB.out.alloc HB.out.size _).drew.grown hgrow (by have := HB.out.size; simp; omega) HROW.out).setCell (Nat.le_refl _) _)
        case measure => simp [intOf]; omega
    · have hkn : k = n := by omega
      subst hkn
      have HO : Hid (wr.ownsRow (w.heap.size + 1) 76 5 v k (rowOf (cells0 U C Bd T A) k)) := hown
      have HB : Hid _ := hbel
      have HX : Hid (Box wr w.heap.size v nx) := hbox
      clear hown hbel hbox
      go_wp2
      go_ret
      refine ⟨rfl, ?_, HB.out⟩
      obtain ⟨f, hr, e1, e2, e3, e4⟩ := HX.out
      rcases HO.out.2 with ⟨e, h0⟩ | ⟨g, cap, cur, e, hg, _⟩
      · subst h0
        exact ⟨none, 0, Nat.le_refl _, ⟨f, hr, e1, e2.trans e, e3, e4⟩, fun h => by omega⟩
      · exact ⟨some ⟨g, 0, none⟩, cap, Nat.le_refl _, ⟨f, hr, e1, e2.trans e, e3, e4⟩, fun _ => ⟨g, rfl, by omega, by omega, steps_of_owned (e ▸ HO.out)⟩⟩

end Go.Proofs.Qxb6614692aMods
