/-
  ZZnewMergeDecoder.
-/
import Derived.Test.Qxb6614704aModsDec
namespace Go.Proofs.Qxb6614704aMods
open Go.RowKit

def c68 (v p : Value) : Array Value := #[.int .u8 0, v, .int .u64 0, .int .u64 0, .pointer none, .int .u64 0, .int .u64 0, .pointer none, .int .u32 0, .int .u32 0, .bool false, .bool false, .bool false, .bool false, p, .slice none 0 0, .slice none 0 0, .slice none 0 0, .bool false, .int .u64 0, .int .u64 0, .pointer none]
theorem box68_made (w : World) (v p : Value) : Box68 (w.alloc (.cells (c68 v p) 68)) w.heap.size v p := box68_start _ _ _ _ rfl rfl rfl
theorem box68_agg (w : World) (v p : Value) (o : Obj) : Box68 ((w.alloc (.cells (c68 v p) 68)).alloc o) w.heap.size v p := (box68_made w v p).of_block (Deep.blk_alloc_lt _ _ _ (by simp))
theorem agg_made (w : World) (o : Obj) (z : Int) (r : List Value) (t : TypeId) : ((w.alloc o).alloc (.cells (.int .u32 z :: r).toArray t)).cell? ⟨w.heap.size + 1, 0, none⟩ = some (.int .u32 z) := by
  have hb := heap_alloc_new (w.alloc o) (.cells (.int .u32 z :: r).toArray t)
  rw [World.size_alloc] at hb
  rw [cell_of_row _ _ 0 _ t (0, 0) hb]
  rfl

def c76 (cs : Array Value) (x0 : Bool) (ba : Nat) : Array Value := ((((((((cs.setIfInBounds 0 (.bool x0)).setIfInBounds 1 (.bool false)).setIfInBounds 2 (.int .u64 0)).setIfInBounds 3 (.int .u64 0)).setIfInBounds 4 (.pointer none)).setIfInBounds 5 (.int .u32 0)).setIfInBounds 6 (.bool false)).setIfInBounds 7 (.pointer (some ⟨ba, 0, none⟩)))
theorem box76_made {cs : Array Value} (hcs : cs.size = 278) (h : cs[274]? = some (.slice none 0 0) ∧ cs[275]? = some (.pointer none)) (w : World) (x0 : Bool) (ba : Nat) : Box76 (w.alloc (.cells (c76 cs x0 ba) 76)) w.heap.size x0 ba (.slice none 0 0) (.pointer none) :=
  box76_start _ _ _ _ _ _ (by simp [c76, hcs]) (by simp [c76, hcs]) (by simp [c76, hcs]) (by simp [c76, h.1]) (by simp [c76, h.2])
theorem box76_agg {cs : Array Value} (hcs : cs.size = 278) (h : cs[274]? = some (.slice none 0 0) ∧ cs[275]? = some (.pointer none)) (w : World) (x0 : Bool) (ba : Nat) (p : Value) (o : Obj) : Box76 ((w.alloc (.cells ((c76 cs x0 ba).setIfInBounds 275 p) 76)).alloc o) w.heap.size x0 ba (.slice none 0 0) p :=
  (box76_start w x0 ba (.slice none 0 0) p ((c76 cs x0 ba).setIfInBounds 275 p) (by simp [c76, hcs]) (by simp [c76, hcs]) (by simp [c76, hcs]) (by simp [c76, h.1]) (by simp [c76, hcs])).of_block (Deep.blk_alloc_lt _ _ _ (by simp))

def aggOf (has : Bool) (z : Int) : Option Int := if has then some z else none

/-- It returned a new decoder. -/
def RetDec (e : Ending) (w w' : World) (as4 : Bool) (P : List Seg) (ag ag4 : Option Int) (F : Option (List Seg)) : Prop :=
  ∃ ba bd, e = .returned (.pointer (some ⟨bd, 0, none⟩)) ∧ w.heap.size ≤ ba ∧ Dec w' ba bd as4 P ag ag4 F
def fourOf (a7 : Option Addr) (S : List Seg) : Option (List Seg) := match a7 with | none => none | some _ => some S

set_option maxRecDepth 100000 in
set_option maxHeartbeats 3200000 in
theorem new_any (x0 x3 x5 : Bool) (x4 x6 : Int) (a1 a2 a7 a8 : Option Addr) (n m c1 c2 c7 c8 : Nat) (ty1 ty7 : Nat → Int) (z2 z8 : Nat → List Int) (w : World)
    (h1 : U8At w a1 n ty1) (h2 : RowsAt w a2 n z2) (h7 : U8At w a7 m ty7) (h8 : RowsAt w a8 m z8) (s2 : Small n z2) (s8 : Small m z8) :
    Calls Trym.prog 18 #[.bool x0, .slice a1 n c1, .slice a2 n c2, .bool x3, .int .u32 x4, .bool x5, .int .u32 x6, .slice a7 m c7, .slice a8 m c8] w fun e w' =>
      RetDec e w w' x0 (segsOf n ty1 z2) (aggOf x3 x4) (aggOf x5 x6) (fourOf a7 (segsOf m ty7 z8)) ∧ Below w.heap.size w w' := by
  obtain ⟨cs, hz76, hcs, h274, h275⟩ := zero76
  have hnil := fun w => Lib.run_eql_slice_nil (P := Trym.prog) w 22 5 a7 m c7 0 0 Trym.underlying22
  have bn : n ≤ maxLen := by unfold maxLen; have := s2.1; omega
  have bm : m ≤ maxLen := by unfold maxLen; have := s8.1; omega
  have HC : Hid (cs[274]? = some (.slice none 0 0) ∧ cs[275]? = some (.pointer none)) := ⟨h274, h275⟩
  clear h274 h275
  go_enter Trym.func18, Trym.ntmps18
  go_wp2_with fail
  refine (zzB1Path_any _ _ _ _ _ _ _ _ h1 h2 s2).mono ?_
  rintro e w1 ⟨⟨pb, rfl, hp1, hp2, hp3⟩, hb1⟩
  have HB1 : Hid (Below w.heap.size w w1) := hb1
  have HP : Hid (∀ w2 : World, (∀ k, w.heap.size ≤ k → k < w1.heap.size → w2.heap[k]? = w1.heap[k]?) → PathAt w2 (some ⟨pb, 0, none⟩) n ty1 z2) := hp3
  have H7 : Hid (U8At w a7 m ty7) := h7
  have H8 : Hid (RowsAt w a8 m z8) := h8
  clear hp3 hb1 h7 h8 h1 h2
  go_upto_if 26 with fail
  go_cut [] (fun wc => ∃ p, Box68 wc w1.heap.size (.slice (some ⟨pb, 0, none⟩) n n) p ∧ AggAt wc w1.heap.size p (aggOf x3 x4) ∧ Below w1.heap.size w1 wc)
  case first =>
    cases x3
    · go_wp2_with fail
      go_meet
      exact ⟨_, box68_made _ _ _, .inl ⟨rfl, rfl⟩, (Below.refl _ _).alloc (Nat.le_refl _) _⟩
    · go_wp2_with fail
      go_meet
      exact ⟨_, box68_agg w1 _ _ _, .inr ⟨x4, w1.heap.size + 1, rfl, rfl, by omega, agg_made w1 _ _ _ _⟩, ((Below.refl _ _).alloc (Nat.le_refl _) _).alloc (by simp) _⟩
  case rest =>
  obtain ⟨p, hbox, hag, hb2⟩ := hcut
  have HX : Hid (Box68 wc w1.heap.size (.slice (some ⟨pb, 0, none⟩) n n) p) := hbox
  have HG : Hid (AggAt wc w1.heap.size p (aggOf x3 x4)) := hag
  have HB2 : Hid (Below w1.heap.size w1 wc) := hb2
  have hlt : w1.heap.size < wc.heap.size := hbox.lt
  clear hbox hag hb2
  rename World => wb
  go_upto_if 38 with fail
  go_cut [] (fun wc => ∃ q, Box76 wc wb.heap.size x0 w1.heap.size (.slice none 0 0) q ∧ AggAt wc w1.heap.size q (aggOf x5 x6) ∧ Below wb.heap.size wb wc)
  case first =>
    cases x5
    · go_wp2_with fail
      go_meet
      exact ⟨_, box76_made hcs HC.out _ _ _, .inl ⟨rfl, rfl⟩, (Below.refl _ _).alloc (Nat.le_refl _) _⟩
    · go_wp2_with fail
      go_meet
      exact ⟨_, box76_agg hcs HC.out _ _ _ _ _, .inr ⟨x6, wb.heap.size + 1, rfl, rfl, by omega, agg_made wb _ _ _ _⟩, ((Below.refl _ _).alloc (Nat.le_refl _) _).alloc (by simp) _⟩
  case rest =>
  obtain ⟨q, hbox, hag, hb3⟩ := hcut
  clear hz76 HC hcs
  have HY : Hid (Box76 wc wb.heap.size x0 w1.heap.size (.slice none 0 0) q) := hbox
  have HG4 : Hid (AggAt wc w1.heap.size q (aggOf x5 x6)) := hag
  have HB3 : Hid (Below wb.heap.size wb wc) := hb3
  have hlt2 : wb.heap.size < wc.heap.size := hbox.lt
  have f274 := hbox.fz 274
  have c274 := hbox.cells.2.2.1
  clear hbox hag hb3
  have HBW : Hid (Below w.heap.size w wc) := (HB1.out.trans (HB2.out.mono HB1.out.size)).trans (HB3.out.mono (Nat.le_trans HB1.out.size HB2.out.size))
  have HXW : Hid (Box68 wc w1.heap.size (.slice (some ⟨pb, 0, none⟩) n n) p) := HX.out.of_block (HB3.out.block _ hlt)
  have HGW : Hid (AggAt wc w1.heap.size p (aggOf x3 x4)) := HG.out.keep (fun k hk _ => HB3.out.block k hk)
  have HPW : Hid (PathAt (sans wc w1.heap.size) (some ⟨pb, 0, none⟩) n ty1 z2) :=
    HP.out _ (fun k _ h2 => (sans_other _ (by omega)).trans ((HB3.out.block _ (Nat.lt_trans h2 hlt)).trans (HB2.out.block _ h2)))
  have hwz : w.heap.size ≤ w1.heap.size := HB1.out.size
  cases a7 with
  | none =>
    go_wp2_with fail
    go_ret
    obtain ⟨d0, d7, d274, d275⟩ := HY.out.cells
    refine ⟨⟨w1.heap.size, wb.heap.size, rfl, hwz, hlt, hlt2, d0, d7, HXW.out.fz 1, HXW.out.fz 14, ⟨_, n, ?_, ?_, bn, HPW.out.toL⟩, ⟨_, HXW.out.c14, HGW.out⟩, ⟨_, d275, HG4.out⟩, ⟨none, 0, d274, Nat.le_refl _, by unfold maxLen; omega, .inl rfl, by simp [fourOf]⟩⟩, HBW.out⟩
    · rw [segsOf_length]; exact HXW.out.c1
    · rw [segsOf_length]; exact Nat.le_refl _
  | some ad =>
    go_wp2_with fail
    refine (zzB1Path_any _ _ _ _ _ _ _ _ (H7.out.later (Nat.le_refl _) HBW.out) (H8.out.later (Nat.le_refl _) HBW.out) s8).mono ?_
    rintro e w3 ⟨⟨fb, rfl, hf1, hf2, hf3⟩, hb4⟩
    have HB4 : Hid (Below wc.heap.size wc w3) := hb4
    have HF : Hid (∀ w2 : World, (∀ k, wc.heap.size ≤ k → k < w3.heap.size → w2.heap[k]? = w3.heap[k]?) → PathAt w2 (some ⟨fb, 0, none⟩) m ty7 z8) := hf3
    have HY3 : Hid (Box76 w3 wb.heap.size x0 w1.heap.size (.slice none 0 0) q) := HY.out.of_block (hb4.block _ hlt2)
    have g274 := HY3.out.fz 274
    have e274 := HY3.out.cells.2.2.1
    clear hf3 hb4
    go_wp2_with fail
    go_ret
    have hk : ∀ k, k ≠ wb.heap.size → (w3.setCell ⟨wb.heap.size, 274, none⟩ (.slice (some ⟨fb, 0, none⟩) m m)).heap[k]? = w3.heap[k]? := fun k h2 => Below.heap_setCell _ _ _ _ h2
    have hk2 : ∀ k, k < wc.heap.size → k ≠ wb.heap.size → (w3.setCell ⟨wb.heap.size, 274, none⟩ (.slice (some ⟨fb, 0, none⟩) m m)).heap[k]? = wc.heap[k]? := fun k h1 h2 => (hk k h2).trans (HB4.out.block k h1)
    have HY4 := HY3.out.set274 (.slice (some ⟨fb, 0, none⟩) m m)
    obtain ⟨d0, d7, d274, d275⟩ := HY4.cells
    have HX4 := HXW.out.of_block (hk2 _ (by omega) (by omega))
    have hP4 := HP.out (sans (w3.setCell ⟨wb.heap.size, 274, none⟩ (.slice (some ⟨fb, 0, none⟩) m m)) w1.heap.size) (fun k _ h2 => (sans_other _ (by omega)).trans ((hk2 k (by omega) (by omega)).trans ((HB3.out.block _ (Nat.lt_trans h2 hlt)).trans (HB2.out.block _ h2))))
    have hF4 := HF.out (sans (w3.setCell ⟨wb.heap.size, 274, none⟩ (.slice (some ⟨fb, 0, none⟩) m m)) w1.heap.size) (fun k h1 _ => (sans_other _ (by omega)).trans (hk k (by omega)))
    have hG4 : AggAt (w3.setCell ⟨wb.heap.size, 274, none⟩ (.slice (some ⟨fb, 0, none⟩) m m)) w1.heap.size p (aggOf x3 x4) := HG.out.keep (fun k h1 _ => (hk2 k (by omega) (by omega)).trans (HB3.out.block _ h1))
    have hG44 : AggAt (w3.setCell ⟨wb.heap.size, 274, none⟩ (.slice (some ⟨fb, 0, none⟩) m m)) w1.heap.size q (aggOf x5 x6) := by
      rcases HG4.out with h | ⟨z, bg, e1, e2, e3, e4⟩
      · exact .inl h
      · refine .inr ⟨z, bg, e1, e2, e3, (World.cell?_of_block (hk2 _ (cell_lt e4) (fun e => ?_))).trans e4⟩
        have hc := HY.out.cells.1
        rw [← e] at hc
        rw [hc] at e4
        cases e4
    have hsw : wb.heap.size < (w3.setCell ⟨wb.heap.size, 274, none⟩ (.slice (some ⟨fb, 0, none⟩) m m)).heap.size := HY4.lt
    refine ⟨⟨w1.heap.size, wb.heap.size, rfl, hwz, hlt, hsw, d0, d7, HX4.fz 1, HX4.fz 14, ⟨_, n, ?_, ?_, bn, hP4.toL⟩, ⟨_, HX4.c14, hG4⟩, ⟨_, d275, hG44⟩, ⟨_, m, ?_, ?_, bm, hF4.toL, by simp [fourOf]⟩⟩, (HBW.out.trans (HB4.out.mono HBW.out.size)).setCell (Nat.le_trans hwz (Nat.le_of_lt hlt)) _⟩
    · rw [segsOf_length]; exact HX4.c1
    · rw [segsOf_length]; exact Nat.le_refl _
    · show _ = some (Value.slice _ (segsOf m ty7 z8).length m)
      rw [segsOf_length]; exact d274
    · show (segsOf m ty7 z8).length ≤ m
      rw [segsOf_length]; exact Nat.le_refl _
end Go.Proofs.Qxb6614704aMods
