/-
  A world without one block; append of one list of numbers to another; rows of segments.
-/
import Derived.Test.Qxb6614704aModsSegs
import Derived.Deep.Upon
import Derived.Deep.AppendLies
import Derived.Deep.RegionHeld3
import Derived.Deep.DrawnRows
import Derived.OwnWalk
namespace Go.Proofs.Qxb6614704aMods
open Go.RowKit

theorem cell_far {w : World} {a p : Addr} {v : Value} (h : p.block ≠ a.block) : (w.setCell a v).cell? p = w.cell? p := World.cell?_of_block (Below.heap_setCell w a v p.block h)
theorem frozen_far {w : World} {a p : Addr} {v : Value} (h : p.block ≠ a.block) : (w.setCell a v).frozen? p = w.frozen? p := World.frozen?_of_block (Below.heap_setCell w a v p.block h)

/-! ### what is read through cells stays, where the cells stay -/
theorem AsnsF.keep {w w' : World} {xo : Option Addr} {l : List Int} (h : AsnsF w xo l) (hk : ∀ a v, w.cell? a = some v → w'.cell? a = some v) : AsnsF w' xo l := by
  rcases h with h | ⟨b, off, e, h⟩
  · exact .inl h
  · exact .inr ⟨b, off, e, fun j hj => hk _ _ (h j hj)⟩
theorem PathAt.keep {w w' : World} {ao : Option Addr} {n : Nat} {ty : Nat → Int} {zs : Nat → List Int} (h : PathAt w ao n ty zs) (hk : ∀ a v, w.cell? a = some v → w'.cell? a = some v) : PathAt w' ao n ty zs := by
  rcases h with h | ⟨b, off, e, h⟩
  · exact .inl h
  · refine .inr ⟨b, off, e, fun i hi => ?_⟩
    obtain ⟨h0, xo, xc, h1, h2, h3, h4, h5⟩ := h i hi
    exact ⟨hk _ _ h0, xo, xc, hk _ _ h1, h2, h3, h4.keep hk, h5⟩

/-- the world without the block B -/
def sans (w : World) (B : Nat) : World := { w with heap := w.heap.setIfInBounds B (.cells #[] 0) }
theorem sans_size (w : World) (B : Nat) : (sans w B).heap.size = w.heap.size := by simp [sans]
theorem sans_other (w : World) {B k : Nat} (h : k ≠ B) : (sans w B).heap[k]? = w.heap[k]? := by
  show (w.heap.setIfInBounds B (.cells #[] 0))[k]? = _
  rw [Array.getElem?_setIfInBounds, if_neg (fun e => h e.symm)]
theorem sans_past (w : World) {B : Nat} (h : w.heap.size ≤ B) (k : Nat) : (sans w B).heap[k]? = w.heap[k]? := by
  show (w.heap.setIfInBounds B (.cells #[] 0))[k]? = _
  rw [Array.getElem?_setIfInBounds]
  by_cases e : B = k
  · subst e
    rw [if_pos rfl, if_neg (by omega), Array.getElem?_eq_none h]
  · rw [if_neg e]
theorem sans_cell {w : World} {B : Nat} {a : Addr} {v : Value} (h : (sans w B).cell? a = some v) : w.cell? a = some v ∧ (B < w.heap.size → a.block ≠ B) := by
  by_cases e : a.block = B
  · by_cases hB : B < w.heap.size
    · exfalso
      have hb : (sans w B).heap[a.block]? = some (.cells #[] 0) := by
        show (w.heap.setIfInBounds B (.cells #[] 0))[a.block]? = _
        rw [e]; simp [hB]
      simp [World.cell?, hb] at h
    · exact ⟨(World.cell?_of_block (sans_past w (by omega) a.block)).symm.trans h, fun h' => absurd h' hB⟩
  · exact ⟨(World.cell?_of_block (sans_other w e)).symm.trans h, fun _ => e⟩
theorem cell_sans {w : World} {B : Nat} {a : Addr} {v : Value} (h : w.cell? a = some v) (ha : a.block ≠ B ∨ w.heap.size ≤ B) : (sans w B).cell? a = some v := by
  rcases ha with ha | ha
  · exact (World.cell?_of_block (sans_other w ha)).trans h
  · exact (World.cell?_of_block (sans_past w ha a.block)).trans h
theorem PathAt.back {w : World} {B : Nat} {ao : Option Addr} {n : Nat} {ty : Nat → Int} {zs : Nat → List Int} (h : PathAt (sans w B) ao n ty zs) : PathAt w ao n ty zs := h.keep (fun _ _ h => (sans_cell h).1)
/-- Where every block but B is as it was, what was read without B is read so still. -/
theorem PathAt.sansKeep {w w' : World} {B : Nat} {ao : Option Addr} {n : Nat} {ty : Nat → Int} {zs : Nat → List Int} (h : PathAt (sans w B) ao n ty zs) (hB : B < w.heap.size) (hk : ∀ k, k < w.heap.size → k ≠ B → w'.heap[k]? = w.heap[k]?) : PathAt (sans w' B) ao n ty zs := by
  refine h.keep (fun a v ha => ?_)
  obtain ⟨h1, h2⟩ := sans_cell ha
  exact cell_sans ((World.cell?_of_block (hk _ (cell_lt h1) (h2 hB))).trans h1) (.inl (h2 hB))

/-! ### append of numbers to numbers -/
theorem asnCells_length (l : List Int) : (l.map (fun z => Value.int .u32 z)).length = l.length := List.length_map ..
theorem asnCells_at {w : World} {b off : Nat} {l : List Int} (h : ∀ j, j < l.length → w.cell? ⟨b, off + j, none⟩ = some (.int .u32 (nth l j))) : ∀ j u, (l.map (fun z => Value.int .u32 z))[j]? = some u → w.cell? ((⟨b, off, none⟩ : Addr).add j) = some u := by
  intro j u hu
  rw [List.getElem?_map] at hu
  cases hj : l[j]? with
  | none => rw [hj] at hu; cases hu
  | some z =>
    rw [hj] at hu
    obtain ⟨hlt, rfl⟩ := List.getElem?_eq_some_iff.1 hj
    rw [Addr.add_lit, h j hlt]
    simpa [nth, List.getD, hj] using hu
theorem asnCells_one (l : List Int) : ∀ u ∈ l.map (fun z => Value.int .u32 z), u.oneCell' = true := by
  intro u hu
  obtain ⟨z, _, rfl⟩ := List.mem_map.1 hu
  rfl

/-- what an append of l2 to l1 hands back -/
structure Joined (w w' : World) (xo bo : Option Addr) (bc : Nat) (l1 l2 : List Int) : Prop where
  all : AsnsF w' bo (l1 ++ l2)
  fresh : l1 = [] ∨ l2 ≠ [] → AsnsIn w' w.heap.size bo (l1 ++ l2)
  same : l2 = [] → bo = xo
  le : (l1 ++ l2).length ≤ bc
  top : bc ≤ maxLen
  nil : bo = none → bc = 0
  below : Below w.heap.size w w'

set_option maxRecDepth 100000 in
theorem run_app_asns (w : World) (ty : TypeId) (xo : Option Addr) (l1 : List Int) (yo : Option Addr) (l2 : List Int) (yc : Nat) (h1 : AsnsF w xo l1) (h2 : AsnsF w yo l2) (hlen : l1.length + l2.length ≤ 4194304) :
    ∃ bo bc w', (Builtin.append_ #[47, 47] ty #[.slice xo l1.length l1.length, .slice yo l2.length yc]).run Trym.prog w = .ok (.slice bo (l1 ++ l2).length bc) w' ∧ Joined w w' xo bo bc l1 l2 := by
  obtain ⟨i, hi, hz, hsz, hby⟩ := info_parts info34
  by_cases h0 : l2 = []
  · subst h0
    have hs : Src Trym.prog i.size 47 (.slice yo 0 yc) 0 [] w := by
      cases yo with
      | none => exact Src.ofNil w Trym.underlying47 yc
      | some a => exact Src.ofSlice w Trym.underlying47 a 0 yc [] (by simp) (fun j u h => by simp at h) (fun u h => by cases h)
    have hr := run_append_nothing (P := Trym.prog) w 47 47 ty 34 i Trym.underlying47 hi xo l1.length l1.length (Nat.le_refl _) _ hs
    refine ⟨xo, l1.length, w, ?_, ?_⟩
    · simp only [List.append_nil]
      exact hr
    · refine ⟨by simpa using h1, fun h => .inl ?_, fun _ => rfl, by simp, by unfold maxLen; simp at hlen; omega, fun e => ?_, Below.refl _ _⟩
      · rcases h with h | h
        · simp [h]
        · exact absurd rfl h
      · rcases h1 with h | ⟨b, off, e', _⟩
        · exact h
        · rw [e] at e'; cases e'
  · have hpos : 0 < l2.length := List.length_pos_iff.2 h0
    rcases h2 with h2 | ⟨b, off, rfl, h2⟩
    · omega
    have hs : Src Trym.prog i.size 47 (.slice (some ⟨b, off, none⟩) l2.length yc) l2.length (l2.map (fun z => Value.int .u32 z)) w :=
      Src.ofSlice w Trym.underlying47 ⟨b, off, none⟩ l2.length yc _ (by rw [asnCells_length, hsz, Nat.mul_one]) (asnCells_at h2) (asnCells_one l2)
    have hold : (Builtin.firstCells i.size l1.length (.slice xo l1.length l1.length)).run Trym.prog w.drew = .ok (l1.map (fun z => Value.int .u32 z)).toArray w.drew := by
      rcases h1 with h1 | ⟨b1, off1, rfl, h1⟩
      · obtain rfl : l1 = [] := List.eq_nil_of_length_eq_zero h1
        cases xo with
        | none => exact run_firstCells_none w.drew i.size 0 0 0
        | some a => exact run_firstCells_some w.drew i.size 0 a 0 0 [] (by simp) (fun j u h => by simp at h)
      · exact run_firstCells_some w.drew i.size l1.length ⟨b1, off1, none⟩ l1.length l1.length _ (by rw [asnCells_length, hsz, Nat.mul_one]) (asnCells_at h1)
    have hg : l1.length < l1.length + l2.length := by omega
    have hr := run_append_grow_src (P := Trym.prog) w 47 47 ty 34 i (.int .u32 0) Trym.underlying47 hi hz xo l1.length l1.length _ hold _ l2.length _ hs hg (by omega) (growslice_fits hg (by rw [hby]; omega))
    have hge := grownCap_ge w (l1.length + l2.length) l1.length 34
    have hcm : grownCap w (l1.length + l2.length) l1.length 34 ≤ maxLen := grownCap_le_maxLen w (l1.length + l2.length) l1.length 34 (by unfold maxLen; omega)
    have hin : AsnsIn (w.drew.alloc (.cells ((l1.map (fun z => Value.int .u32 z) ++ l2.map (fun z => Value.int .u32 z)).toArray ++ Builtin.zeroCells (Value.int .u32 0).cells (grownCap w (l1.length + l2.length) l1.length 34 - (l1.length + l2.length))) 34)) w.heap.size (some ⟨w.heap.size, 0, none⟩) (l1 ++ l2) := by
      refine .inr ⟨w.heap.size, 0, rfl, Nat.le_refl _, fun j hj => ?_⟩
      have hb := heap_alloc_new w.drew (.cells ((l1.map (fun z => Value.int .u32 z) ++ l2.map (fun z => Value.int .u32 z)).toArray ++ Builtin.zeroCells (Value.int .u32 0).cells (grownCap w (l1.length + l2.length) l1.length 34 - (l1.length + l2.length))) 34)
      rw [Nat.zero_add]
      rw [cell_of_row _ w.heap.size j _ 34 (0, 0) hb]
      have hj' : j < (l1.map (fun z => Value.int .u32 z) ++ l2.map (fun z => Value.int .u32 z)).toArray.size := by simpa using hj
      rw [Array.getElem?_append_left hj', ← List.map_append]
      rw [List.getElem?_toArray, List.getElem?_map, List.getElem?_eq_getElem hj]
      unfold nth List.getD
      rw [List.getElem?_eq_getElem hj]
      rfl
    rw [← List.length_append] at hr hin hge hcm
    refine ⟨_, _, _, hr, ?_⟩
    · exact ⟨hin.plain, fun _ => hin, fun e => absurd e h0, hge, hcm, (fun e => by cases e), ((Below.refl _ _).drew).alloc (Nat.le_refl _) _⟩

theorem wp_app_asns {o : Oper} {a : Act} {w : World} {K : Act → World → Prop} {Q : Exit → Act → World → Prop} (s x : Operand)
    (ho : o.op = .call { callee := .builtin .append, args := #[s, x], argTypes := #[47, 47] }) (xo : Option Addr) (l1 : List Int) (yo : Option Addr) (l2 : List Int) (yc : Nat)
    (hs : a.eval s = .slice xo l1.length l1.length) (hx : a.eval x = .slice yo l2.length yc) (h1 : AsnsF w xo l1) (h2 : AsnsF w yo l2) (hlen : l1.length + l2.length ≤ 4194304)
    (h : ∀ bo bc w', Joined w w' xo bo bc l1 l2 → K (a.put o.dst (.slice bo (l1 ++ l2).length bc)) w') : o.wp Trym.prog a w K Q := by
  obtain ⟨bo, bc, w', hr, hj⟩ := run_app_asns w o.type xo l1 yo l2 yc h1 h2 hlen
  unfold Oper.wp execOp
  simp only [ho, resolve, invoke, builtin, Sem.run_bind, Sem.run_pure, Result.andThen_ok, List.map_toArray, List.map_cons, List.map_nil, hs, hx, hr]
  exact h bo bc w' hj
theorem step_app_asns {ops : Array Oper} {o : Oper} {a : Act} {w : World} {K : Act → World → Prop} {Q : Exit → Act → World → Prop} {E : Prop} (hgd : o.guard = none) (s x : Operand)
    (ho : o.op = .call { callee := .builtin .append, args := #[s, x], argTypes := #[47, 47] }) (xo : Option Addr) (l1 : List Int) (yo : Option Addr) (l2 : List Int) (yc : Nat)
    (hs : a.eval s = .slice xo l1.length l1.length) (hx : a.eval x = .slice yo l2.length yc) (h1 : AsnsF w xo l1) (h2 : AsnsF w yo l2) (hlen : l1.length + l2.length ≤ 4194304)
    (h : ∀ bo bc w', Joined w w' xo bo bc l1 l2 → K (a.put o.dst (.slice bo (l1 ++ l2).length bc)) w') :
    if Region.wanted o (yielded ops a.tmps) = true then Oper.wp Trym.prog o a w K Q else E := by
  have hw : Region.wanted o (yielded ops a.tmps) = true := by simp [Region.wanted, hgd]
  rw [if_pos hw]
  exact wp_app_asns s x ho xo l1 yo l2 yc hs hx h1 h2 hlen h

/-! ### a row of pairs of cells -/
def Row2 (w : World) (g n : Nat) (F : Nat → Nat → Value) : Prop :=
  ∃ c : Array Value, w.heap[g]? = some (.cells c 89 (0, 0)) ∧ n * 2 ≤ c.size ∧ ∀ i, i < n → ∀ j, j < 2 → c[i * 2 + j]? = some (F i j)
theorem Row2.cell {w : World} {g n : Nat} {F : Nat → Nat → Value} (h : Row2 w g n F) {i j : Nat} (hi : i < n) (hj : j < 2) : w.cell? ⟨g, i * 2 + j, none⟩ = some (F i j) := by
  obtain ⟨c, hb, _, hc⟩ := h
  simp [World.cell?, hb, hc i hi j hj]
theorem Row2.frozen {w : World} {g n : Nat} {F : Nat → Nat → Value} (h : Row2 w g n F) (o : Nat) : w.frozen? ⟨g, o, none⟩ = false := by
  obtain ⟨c, hb, _, _⟩ := h
  simp [World.frozen?, hb]
theorem Row2.lt {w : World} {g n : Nat} {F : Nat → Nat → Value} (h : Row2 w g n F) : g < w.heap.size := by
  obtain ⟨c, hb, _, _⟩ := h
  exact (Array.getElem?_eq_some_iff.1 hb).1
theorem Row2.of_block {w w' : World} {g n : Nat} {F : Nat → Nat → Value} (h : Row2 w g n F) (e : w'.heap[g]? = w.heap[g]?) : Row2 w' g n F := by
  obtain ⟨c, hb, r⟩ := h
  exact ⟨c, e.trans hb, r⟩
theorem Row2.congr {w : World} {g n : Nat} {F G : Nat → Nat → Value} (h : Row2 w g n F) (e : ∀ i, i < n → ∀ j, j < 2 → F i j = G i j) : Row2 w g n G := by
  obtain ⟨c, hb, hn, hc⟩ := h
  exact ⟨c, hb, hn, fun i hi j hj => by rw [hc i hi j hj, e i hi j hj]⟩
theorem Row2.set {w : World} {g n : Nat} {F : Nat → Nat → Value} (h : Row2 w g n F) {i j : Nat} (hi : i < n) (hj : j < 2) (v : Value) :
    Row2 (w.setCell ⟨g, i * 2 + j, none⟩ v) g n (fun a b => if a = i ∧ b = j then v else F a b) := by
  obtain ⟨c, hb, hn, hc⟩ := h
  refine ⟨c.setIfInBounds (i * 2 + j) v, ?_, by simpa using hn, fun a ha b hb' => ?_⟩
  · simp [World.setCell, Array.getElem?_modify, hb]
  · rw [Array.getElem?_setIfInBounds]
    by_cases e : i * 2 + j = a * 2 + b
    · have e1 : a = i := by omega
      have e2 : b = j := by omega
      subst e1; subst e2
      have : a * 2 + b < c.size := by omega
      simp [this]
    · rw [if_neg e, hc a ha b hb']
      show some (F a b) = some (if a = i ∧ b = j then v else F a b)
      rw [if_neg (by omega)]
/-- the cells of the first k pairs, one behind the other -/
def rowOf (F : Nat → Nat → Value) : Nat → List Value
  | 0 => []
  | k + 1 => rowOf F k ++ [F k 0, F k 1]
theorem rowOf_length (F : Nat → Nat → Value) : ∀ k, (rowOf F k).length = k * 2
  | 0 => rfl
  | k + 1 => by simp [rowOf, rowOf_length F k]; omega
theorem rowOf_at (F : Nat → Nat → Value) (i j : Nat) (hj : j < 2) : ∀ k, i < k → (rowOf F k)[i * 2 + j]? = some (F i j)
  | 0, h => by omega
  | k + 1, h => by
    have hl := rowOf_length F k
    by_cases e : i = k
    · subst e
      rw [rowOf, List.getElem?_append_right (by omega), hl]
      have : i * 2 + j - i * 2 = j := by omega
      rw [this]
      rcases j with _ | _ | j <;> first | rfl | omega
    · rw [rowOf, List.getElem?_append_left (by omega)]
      exact rowOf_at F i j hj k (by omega)
theorem row2_of_owned {w : World} {base g n cap : Nat} {xs : List Value} (F : Nat → Nat → Value) (h : w.ownsRow base 89 2 (.slice (some ⟨g, 0, none⟩) n cap) n xs) (hF : ∀ i, i < n → ∀ j, j < 2 → xs[i * 2 + j]? = some (F i j)) : Row2 w g n F := by
  rcases h.2 with ⟨h0, _⟩ | ⟨g', cap', cur, hv, hb, hg, hc1, hc2, hsz, htk⟩
  · cases h0
  · simp only [Value.slice.injEq, Option.some.injEq, Addr.mk.injEq] at hv
    obtain ⟨⟨rfl, _⟩, _, rfl⟩ := hv
    refine ⟨cur, hg, by rw [hsz]; exact Nat.mul_le_mul_right 2 hc1, fun i hi j hj => ?_⟩
    have := hF i hi j hj
    rw [← htk, List.getElem?_take, if_pos (by omega)] at this
    simpa using this
theorem info89 : (Trym.prog.info? 89).map (fun i => (i.zero, i.size, i.bytes)) = some (some (.agg #[.int .u8 0, .slice none 0 0]), 2, 32) := by kernel_rfl

end Go.Proofs.Qxb6614704aMods
