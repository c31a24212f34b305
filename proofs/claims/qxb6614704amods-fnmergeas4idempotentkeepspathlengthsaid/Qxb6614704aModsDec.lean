/-
  A decoder in memory, and the function that makes one.
-/
import Derived.Test.Qxb6614704aModsPath
import Derived.Deep.DeepCutAuto
namespace Go.Proofs.Qxb6614704aMods
open Go.RowKit

/-- a segment: its kind and its numbers -/
abbrev Seg := Int × List Int
def tyL (S : List Seg) (i : Nat) : Int := (S.getD i (0, [])).1
def zsL (S : List Seg) (i : Nat) : List Int := (S.getD i (0, [])).2
def PathL (w : World) (ao : Option Addr) (S : List Seg) : Prop := PathAt w ao S.length (tyL S) (zsL S)
def segsOf (n : Nat) (ty : Nat → Int) (zs : Nat → List Int) : List Seg := (List.range n).map (fun i => (ty i, zs i))
theorem segsOf_length (n : Nat) (ty : Nat → Int) (zs : Nat → List Int) : (segsOf n ty zs).length = n := by simp [segsOf]
theorem segsOf_getD (n : Nat) (ty : Nat → Int) (zs : Nat → List Int) {i : Nat} (h : i < n) : (segsOf n ty zs).getD i (0, []) = (ty i, zs i) := by
  simp [segsOf, List.getD, h]
theorem PathAt.congr {w : World} {ao : Option Addr} {n : Nat} {ty ty' : Nat → Int} {zs zs' : Nat → List Int} (h : PathAt w ao n ty zs) (h1 : ∀ i, i < n → ty i = ty' i) (h2 : ∀ i, i < n → zs i = zs' i) : PathAt w ao n ty' zs' := by
  rcases h with h | ⟨b, off, e, h⟩
  · exact .inl h
  · refine .inr ⟨b, off, e, fun i hi => ?_⟩
    rw [← h1 i hi, ← h2 i hi]
    exact h i hi
theorem PathAt.toL {w : World} {ao : Option Addr} {n : Nat} {ty : Nat → Int} {zs : Nat → List Int} (h : PathAt w ao n ty zs) : PathL w ao (segsOf n ty zs) := by
  unfold PathL
  rw [segsOf_length]
  exact h.congr (fun i hi => by rw [tyL, segsOf_getD n ty zs hi]) (fun i hi => by rw [zsL, segsOf_getD n ty zs hi])

/-- an aggregator behind p (never in the block ba) -/
def AggAt (w : World) (ba : Nat) (p : Value) (ag : Option Int) : Prop := (ag = none ∧ p = .pointer none) ∨ ∃ z bg, ag = some z ∧ p = .pointer (some ⟨bg, 0, none⟩) ∧ bg ≠ ba ∧ w.cell? ⟨bg, 0, none⟩ = some (.int .u32 z)
theorem AggAt.keep {w w' : World} {ba : Nat} {p : Value} {ag : Option Int} (h : AggAt w ba p ag) (hk : ∀ k, k < w.heap.size → k ≠ ba → w'.heap[k]? = w.heap[k]?) : AggAt w' ba p ag := by
  rcases h with h | ⟨z, bg, e1, e2, e3, e4⟩
  · exact .inl h
  · exact .inr ⟨z, bg, e1, e2, e3, (World.cell?_of_block (hk _ (cell_lt e4) e3)).trans e4⟩

structure Dec (w : World) (ba bd : Nat) (as4 : Bool) (P : List Seg) (ag ag4 : Option Int) (F : Option (List Seg)) : Prop where
  lt : ba < bd
  sz : bd < w.heap.size
  c0 : w.cell? ⟨bd, 0, none⟩ = some (.bool as4)
  c7 : w.cell? ⟨bd, 7, none⟩ = some (.pointer (some ⟨ba, 0, none⟩))
  f1 : w.frozen? ⟨ba, 1, none⟩ = false
  f14 : w.frozen? ⟨ba, 14, none⟩ = false
  path : ∃ po pc, w.cell? ⟨ba, 1, none⟩ = some (.slice po P.length pc) ∧ P.length ≤ pc ∧ pc ≤ maxLen ∧ PathL (sans w ba) po P
  agg : ∃ p, w.cell? ⟨ba, 14, none⟩ = some p ∧ AggAt w ba p ag
  agg4 : ∃ p, w.cell? ⟨bd, 275, none⟩ = some p ∧ AggAt w ba p ag4
  four : ∃ fo fc, w.cell? ⟨bd, 274, none⟩ = some (.slice fo (F.getD []).length fc) ∧ (F.getD []).length ≤ fc ∧ fc ≤ maxLen ∧ PathL (sans w ba) fo (F.getD []) ∧ (fo = none ↔ F = none)
theorem Dec.later {w w' : World} {ba bd : Nat} {as4 : Bool} {P : List Seg} {ag ag4 : Option Int} {F : Option (List Seg)} (h : Dec w ba bd as4 P ag ag4 F) (hb : Below w.heap.size w w') : Dec w' ba bd as4 P ag ag4 F := by
  have hl := h.lt
  have hs := h.sz
  have hk : ∀ k, k < w.heap.size → k ≠ ba → w'.heap[k]? = w.heap[k]? := fun k hk _ => hb.block k hk
  have cb : ∀ o, w'.cell? ⟨ba, o, none⟩ = w.cell? ⟨ba, o, none⟩ := fun o => World.cell?_of_block (hb.block ba (by omega))
  have cd : ∀ o, w'.cell? ⟨bd, o, none⟩ = w.cell? ⟨bd, o, none⟩ := fun o => World.cell?_of_block (hb.block bd hs)
  have fb : ∀ o, w'.frozen? ⟨ba, o, none⟩ = w.frozen? ⟨ba, o, none⟩ := fun o => World.frozen?_of_block (hb.block ba (by omega))
  obtain ⟨po, pc, p1, p2, p3, p4⟩ := h.path
  obtain ⟨q, q1, q2⟩ := h.agg
  obtain ⟨r, r1, r2⟩ := h.agg4
  obtain ⟨fo, fc, s1, s2, s3, s4, s5⟩ := h.four
  exact ⟨hl, Nat.lt_of_lt_of_le hs hb.size, (cd _).trans h.c0, (cd _).trans h.c7, (fb _).trans h.f1, (fb _).trans h.f14,
    ⟨po, pc, (cb _).trans p1, p2, p3, p4.sansKeep (by omega) hk⟩, ⟨q, (cb _).trans q1, q2.keep hk⟩, ⟨r, (cd _).trans r1, r2.keep hk⟩,
    ⟨fo, fc, (cd _).trans s1, s2, s3, s4.sansKeep (by omega) hk, s5⟩⟩

/-! ### the boxes while the decoder is being made -/
def Box68 (w : World) (b : Nat) (v p : Value) : Prop := ∃ f, w.rowIs b 68 22 f ∧ f 1 = v ∧ f 14 = p
theorem box68_start (w : World) (v p : Value) (c : Array Value) (hc : c.size = 22) (h1 : c[1]? = some v) (h14 : c[14]? = some p) : Box68 (w.alloc (.cells c 68)) w.heap.size v p := by
  have hr := World.rowIs_alloc w c 68 (fun i => c[i]?.getD undef) (fun i hi => by simp [hi])
  rw [hc] at hr
  exact ⟨_, hr, by simp [h1], by simp [h14]⟩
theorem Box68.of_block {w w' : World} {b : Nat} {v p : Value} (h : Box68 w b v p) (e : w'.heap[b]? = w.heap[b]?) : Box68 w' b v p := by
  obtain ⟨f, hr, r⟩ := h; exact ⟨f, hr.of_block e, r⟩
theorem Box68.set14 {w : World} {b : Nat} {v p : Value} (h : Box68 w b v p) (u : Value) : Box68 (w.setCell ⟨b, 14, none⟩ u) b v u := by
  obtain ⟨f, hr, e1, e2⟩ := h
  exact ⟨_, hr.set 14 _, by simpa using e1, by simp⟩
theorem Box68.fz {w : World} {b : Nat} {v p : Value} (h : Box68 w b v p) (o : Nat) : w.frozen? ⟨b, o, none⟩ = false := by
  obtain ⟨f, hr, _⟩ := h; exact hr.frozen o
theorem Box68.c1 {w : World} {b : Nat} {v p : Value} (h : Box68 w b v p) : w.cell? ⟨b, 1, none⟩ = some v := by
  obtain ⟨f, hr, e, _⟩ := h; rw [← e]; exact hr.cell (by omega)
theorem Box68.c14 {w : World} {b : Nat} {v p : Value} (h : Box68 w b v p) : w.cell? ⟨b, 14, none⟩ = some p := by
  obtain ⟨f, hr, _, e⟩ := h; rw [← e]; exact hr.cell (by omega)
theorem Box68.lt {w : World} {b : Nat} {v p : Value} (h : Box68 w b v p) : b < w.heap.size := by
  obtain ⟨f, hr, _⟩ := h; exact hr.lt
def Box76 (w : World) (b : Nat) (x0 : Bool) (ba : Nat) (v p : Value) : Prop := ∃ f, w.rowIs b 76 278 f ∧ f 0 = .bool x0 ∧ f 7 = .pointer (some ⟨ba, 0, none⟩) ∧ f 274 = v ∧ f 275 = p
theorem box76_start (w : World) (x0 : Bool) (ba : Nat) (v p : Value) (c : Array Value) (hc : c.size = 278) (h0 : c[0]? = some (.bool x0)) (h7 : c[7]? = some (.pointer (some ⟨ba, 0, none⟩))) (h1 : c[274]? = some v) (h14 : c[275]? = some p) : Box76 (w.alloc (.cells c 76)) w.heap.size x0 ba v p := by
  have hr := World.rowIs_alloc w c 76 (fun i => c[i]?.getD undef) (fun i hi => by simp [hi])
  rw [hc] at hr
  exact ⟨_, hr, by simp [h0], by simp [h7], by simp [h1], by simp [h14]⟩
theorem Box76.of_block {w w' : World} {b : Nat} {x0 : Bool} {ba : Nat} {v p : Value} (h : Box76 w b x0 ba v p) (e : w'.heap[b]? = w.heap[b]?) : Box76 w' b x0 ba v p := by
  obtain ⟨f, hr, r⟩ := h; exact ⟨f, hr.of_block e, r⟩
theorem Box76.set274 {w : World} {b : Nat} {x0 : Bool} {ba : Nat} {v p : Value} (h : Box76 w b x0 ba v p) (u : Value) : Box76 (w.setCell ⟨b, 274, none⟩ u) b x0 ba u p := by
  obtain ⟨f, hr, e1, e2, e3, e4⟩ := h
  exact ⟨_, hr.set 274 _, by simpa using e1, by simpa using e2, by simp, by simpa using e4⟩
theorem Box76.set275 {w : World} {b : Nat} {x0 : Bool} {ba : Nat} {v p : Value} (h : Box76 w b x0 ba v p) (u : Value) : Box76 (w.setCell ⟨b, 275, none⟩ u) b x0 ba v u := by
  obtain ⟨f, hr, e1, e2, e3, e4⟩ := h
  exact ⟨_, hr.set 275 _, by simpa using e1, by simpa using e2, by simpa using e3, by simp⟩
theorem Box76.fz {w : World} {b : Nat} {x0 : Bool} {ba : Nat} {v p : Value} (h : Box76 w b x0 ba v p) (o : Nat) : w.frozen? ⟨b, o, none⟩ = false := by
  obtain ⟨f, hr, _⟩ := h; exact hr.frozen o
theorem Box76.cells {w : World} {b : Nat} {x0 : Bool} {ba : Nat} {v p : Value} (h : Box76 w b x0 ba v p) :
    w.cell? ⟨b, 0, none⟩ = some (.bool x0) ∧ w.cell? ⟨b, 7, none⟩ = some (.pointer (some ⟨ba, 0, none⟩)) ∧ w.cell? ⟨b, 274, none⟩ = some v ∧ w.cell? ⟨b, 275, none⟩ = some p := by
  obtain ⟨f, hr, e0, e1, e2, e3⟩ := h
  refine ⟨?_, ?_, ?_, ?_⟩
  · rw [← e0]; exact hr.cell (by omega)
  · rw [← e1]; exact hr.cell (by omega)
  · rw [← e2]; exact hr.cell (by omega)
  · rw [← e3]; exact hr.cell (by omega)
theorem Box76.lt {w : World} {b : Nat} {x0 : Bool} {ba : Nat} {v p : Value} (h : Box76 w b x0 ba v p) : b < w.heap.size := by
  obtain ⟨f, hr, _⟩ := h; exact hr.lt

/-- the cells of an empty decoder -/
theorem zero76 : ∃ cs : Array Value, (∀ w : World, (zeroValue 76).run Trym.prog w = .ok (.agg cs) w) ∧ cs.size = 278 ∧ cs[274]? = some (.slice none 0 0) ∧ cs[275]? = some (.pointer none) :=
  ⟨(Trym.t76.zero.getD undef).cells, fun w => by kernel_rfl, by kernel_rfl, by kernel_rfl, by kernel_rfl⟩

end Go.Proofs.Qxb6614704aMods
