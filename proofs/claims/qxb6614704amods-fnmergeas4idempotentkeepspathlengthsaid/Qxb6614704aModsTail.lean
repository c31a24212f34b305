/-
  The last append of the merge.
-/
import Derived.Test.Qxb6614704aModsMer
import Derived.Test.Qxb6614704aModsLaw
namespace Go.Proofs.Qxb6614704aMods
open Go.RowKit

/-- what the last append hands back -/
structure Ended (K0 : Nat) (w w' : World) (mv : Value) (bo : Option Addr) (bc : Nat) (R : List Ent) : Prop where
  own : w'.ownsRow K0 89 2 (.slice bo R.length bc) R.length (cellsOf R)
  grown : w.grownBy w' mv.ownBlock
  le : R.length ≤ bc
  top : bc ≤ maxLen

set_option maxRecDepth 100000 in
theorem run_app_segs (w : World) (ty : TypeId) (K0 : Nat) (mv : Value) (R R4 : List Ent) (hown : w.ownsRow K0 89 2 mv R.length (cellsOf R)) (yo : Option Addr) (yc : Nat)
    (hsrc : R4 = [] ∨ ∃ b off, yo = some ⟨b, off, none⟩ ∧ ∀ j u, (cellsOf R4)[j]? = some u → w.cell? ⟨b, off + j, none⟩ = some u) (hK : K0 ≤ w.heap.size) (hb : R.length + R4.length ≤ 8388608) :
    ∃ bo bc w', (Builtin.append_ #[53, 53] ty #[mv, .slice yo R4.length yc]).run Trym.prog w = .ok (.slice bo (R ++ R4).length bc) w' ∧ Ended K0 w w' mv bo bc (R ++ R4) := by
  obtain ⟨i, hi, hz, hsz, hby⟩ := info_parts info89
  have fin : ∀ (v : Value) (W : World) (X : List Ent), W.ownsRow K0 89 2 v X.length (cellsOf X) → ∃ bo bc, v = .slice bo X.length bc ∧ X.length ≤ bc ∧ bc ≤ maxLen := fun v W X h => by
    rcases h.2 with ⟨e, h0⟩ | ⟨g, cap, cur, e, _, _, h1, h2, _⟩
    · exact ⟨none, 0, by rw [e, h0], by omega, by unfold maxLen; omega⟩
    · exact ⟨_, cap, e, h1, h2⟩
  by_cases h0 : R4 = []
  · subst h0
    have hs : Src Trym.prog i.size 53 (.slice yo 0 yc) 0 [] w := by
      cases yo with
      | none => exact Src.ofNil w Trym.underlying53 yc
      | some a => exact Src.ofSlice w Trym.underlying53 a 0 yc [] (by simp) (fun j u h => by simp at h) (fun u h => by cases h)
    obtain ⟨bo, bc, rfl, h1, h2⟩ := fin mv w R hown
    have hr := run_append_nothing (P := Trym.prog) w 53 53 ty 89 i Trym.underlying53 hi bo R.length bc h1 _ hs
    refine ⟨bo, bc, w, ?_, ?_⟩
    · rw [List.append_nil]; exact hr
    · rw [List.append_nil]; exact ⟨hown, World.grownBy.refl _ _, h1, h2⟩
  · rcases hsrc with h | ⟨b, off, rfl, hc⟩
    · exact absurd h h0
    · obtain ⟨v', w', hr, h2, h3, _⟩ := run_append_own_at (P := Trym.prog) w K0 53 ty 89 i _ 2 32 Trym.underlying53 hi hz hsz hby (by rfl) (by decide) mv R.length (cellsOf R) hown ⟨b, off, none⟩ R4.length yc (cellsOf R4) (cellsOf_length R4) (fun j u hu => by rw [Addr.add_lit]; exact hc j u hu) (cellsOf_one R4) (by unfold maxLen; omega) (by omega) hK
      rw [← cellsOf_append, ← List.length_append] at h2
      obtain ⟨bo, bc, rfl, h5, h6⟩ := fin v' w' (R ++ R4) h2
      exact ⟨bo, bc, w', hr, h2, h3, h5, h6⟩
theorem wpList_app_segs {w : World} {ops : Array Oper} {rest : List Oper} {o : Oper} {a : Act} {Q : Exit → Act → World → Prop} (hgd : o.guard = none) (s x : Operand)
    (ho : o.op = .call { callee := .builtin .append, args := #[s, x], argTypes := #[53, 53] }) (K0 : Nat) (mv : Value) (R R4 : List Ent) (hs : a.eval s = mv) (hown : w.ownsRow K0 89 2 mv R.length (cellsOf R)) (yo : Option Addr) (m yc : Nat) (hx : a.eval x = .slice yo m yc) (hm : m = R4.length)
    (hsrc : R4 = [] ∨ ∃ b off, yo = some ⟨b, off, none⟩ ∧ ∀ j u, (cellsOf R4)[j]? = some u → w.cell? ⟨b, off + j, none⟩ = some u) (hK : K0 ≤ w.heap.size) (hb : R.length + R4.length ≤ 8388608)
    (h : ∀ bo bc w', Ended K0 w w' mv bo bc (R ++ R4) → wpList Trym.prog ops Q rest (a.put o.dst (.slice bo (R ++ R4).length bc)) w') : wpList Trym.prog ops Q (o :: rest) a w := by
  subst hm
  refine wpList_plain hgd fun K hK' => ?_
  obtain ⟨bo, bc, w', hr, he⟩ := run_app_segs w o.type K0 mv R R4 hown yo yc hsrc hK hb
  unfold Oper.wp execOp
  simp only [ho, resolve, invoke, builtin, Sem.run_bind, Sem.run_pure, Result.andThen_ok, List.map_toArray, List.map_cons, List.map_nil, hs, hx, hr]
  exact hK' _ _ (h bo bc w' he)
/-- The row that was built is a path, apart from the block ba. -/
theorem Ended.path {K0 : Nat} {w w' : World} {mv : Value} {bo : Option Addr} {bc : Nat} {R : List Ent} {ba : Nat} (h : Ended K0 w w' mv bo bc R) (hba : ba < K0) (hg : ∀ e ∈ R, Good (sans w' ba) e) : PathL (sans w' ba) bo (R.map segOf) := by
  rcases h.own.2 with ⟨e, h0⟩ | ⟨g, cap, cur, e, hg', _⟩
  · unfold PathL
    exact .inl (by simpa using h0)
  · simp only [Value.slice.injEq] at e
    obtain ⟨rfl, _, rfl⟩ := e
    exact path_of_ents R (fun j u hu => cell_sans (owns_cells h.own j u hu) (.inl (by show g ≠ ba; omega))) hg
/-- ahead of the last append -/
structure Last (w3 : World) (ba : Nat) (wc : World) (m : Value) (R5 : List Ent) (yo : Option Addr) (R6 : List Ent) : Prop where
  own : wc.ownsRow w3.heap.size 89 2 m R5.length (cellsOf R5)
  good : ∀ e ∈ R5 ++ R6, ∀ W : World, (∀ k, k < wc.heap.size → some k ≠ m.ownBlock → W.heap[k]? = wc.heap[k]?) → Good (sans W ba) e
  src : R6 = [] ∨ ∃ b off, yo = some ⟨b, off, none⟩ ∧ ∀ j u, (cellsOf R6)[j]? = some u → wc.cell? ⟨b, off + j, none⟩ = some u
  below : Below w3.heap.size w3 wc
theorem owns_row {w : World} {base : Nat} {m : Value} {n : Nat} {xs : List Value} (h : w.ownsRow base 89 2 m n xs) : ∀ q, m.ownBlock = some q → base ≤ q := by
  intro q hq
  rcases h.2 with ⟨e, _⟩ | ⟨g, cp, cur, e, hg', _⟩
  · rw [e] at hq; cases hq
  · rw [e] at hq; injection hq with hq; simp at hq; omega
theorem Last.done {w3 wc w8 : World} {ba : Nat} {m : Value} {R5 R6 : List Ent} {yo bo : Option Addr} {bc : Nat} (h : Last w3 ba wc m R5 yo R6) (he : Ended w3.heap.size wc w8 m bo bc (R5 ++ R6)) (hba : ba < w3.heap.size) :
    Below w3.heap.size w3 w8 ∧ PathL (sans w8 ba) bo ((R5 ++ R6).map segOf) :=
  ⟨h.below.grown he.grown h.below.size (owns_row h.own), he.path hba (fun e hx => h.good e hx w8 (fun k h1 h2 => he.grown.block k h1 h2))⟩
theorem good_old {w3 wc : World} {ba : Nat} {m : Value} {e : Ent} (h : Good (sans w3 ba) e) (hb : Below w3.heap.size w3 wc) (hrow : ∀ q, m.ownBlock = some q → w3.heap.size ≤ q) (hba : ba < w3.heap.size) :
    ∀ W : World, (∀ k, k < wc.heap.size → some k ≠ m.ownBlock → W.heap[k]? = wc.heap[k]?) → Good (sans W ba) e := fun W hW => by
  refine h.keep (fun a v ha => ?_)
  obtain ⟨h1, h2⟩ := sans_cell ha
  have hl := cell_lt h1
  have hsz := hb.size
  exact cell_sans ((World.cell?_of_block ((hW _ (by omega) (fun e => by have := hrow _ e.symm; omega)).trans (hb.block _ hl))).trans h1) (.inl (h2 hba))
/-- the entry that became one with the next -/
theorem good_joined {w3 w6 w7 : World} {ba g o : Nat} {v : Value} {n cap : Nat} {xo bo : Option Addr} {bc ec : Nat} {l1 l2 : List Int} (hj : Joined w6 w7 xo bo bc l1 l2) (he : Good (sans w3 ba) (2, l1, xo, ec)) (hb : Below w3.heap.size w3 w6) (hg : w3.heap.size ≤ g) (hg6 : g < w6.heap.size) (hba : ba < w3.heap.size) :
    ∀ W : World, (∀ k, k < (w7.setCell ⟨g, o, none⟩ v).heap.size → some k ≠ (Value.slice (some ⟨g, 0, none⟩) n cap).ownBlock → W.heap[k]? = (w7.setCell ⟨g, o, none⟩ v).heap[k]?) → Good (sans W ba) (2, l1 ++ l2, bo, bc) := fun W hW => by
  have hs3 := hb.size
  have hs7 := hj.below.size
  have hsz : (w7.setCell ⟨g, o, none⟩ v).heap.size = w7.heap.size := by simp
  have hW7 : ∀ k, k < w7.heap.size → k ≠ g → W.heap[k]? = w7.heap[k]? := fun k h1 h2 => (hW k (by omega) (fun e => h2 (by injection e))).trans (Below.heap_setCell _ _ _ _ h2)
  refine ⟨hj.le, hj.top, ?_, hj.nil⟩
  by_cases h0 : l2 = []
  · have e := hj.same h0
    subst h0
    show AsnsF (sans W ba) bo (l1 ++ [])
    rw [e, List.append_nil]
    refine he.asns.keep (fun a v ha => ?_)
    obtain ⟨h1, h2⟩ := sans_cell ha
    have hl := cell_lt h1
    exact cell_sans ((World.cell?_of_block ((hW7 _ (by omega) (by omega)).trans ((hj.below.block _ (by omega)).trans (hb.block _ hl)))).trans h1) (.inl (h2 hba))
  · rcases hj.fresh (.inr h0) with h | ⟨b, off, e, hk, h⟩
    · exact .inl h
    · exact .inr ⟨b, off, e, fun j hj' => cell_sans ((World.cell?_of_block (hW7 b (cell_lt (h j hj')) (by omega))).trans (h j hj')) (.inl (by show b ≠ ba; omega))⟩
theorem owns_of_block {w w' : World} {base g n cap : Nat} {xs : List Value} (h : w.ownsRow base 89 2 (.slice (some ⟨g, 0, none⟩) n cap) n xs) (e : w'.heap[g]? = w.heap[g]?) : w'.ownsRow base 89 2 (.slice (some ⟨g, 0, none⟩) n cap) n xs := by
  refine ⟨h.1, ?_⟩
  rcases h.2 with ⟨h0, _⟩ | ⟨g', cap', cur, hv, hb, hg, r⟩
  · cases h0
  · have hv' := hv
    simp only [Value.slice.injEq, Option.some.injEq, Addr.mk.injEq] at hv'
    obtain ⟨⟨rfl, _⟩, _, rfl⟩ := hv'
    exact .inr ⟨g, cap, cur, rfl, hb, e.trans hg, r⟩
theorem owns_frozen {w : World} {base g n cap : Nat} {xs : List Value} (h : w.ownsRow base 89 2 (.slice (some ⟨g, 0, none⟩) n cap) n xs) (o : Nat) : w.frozen? ⟨g, o, none⟩ = false := by
  rcases h.2 with ⟨h0, _⟩ | ⟨g', cap', cur, hv, hb, hg, _⟩
  · cases h0
  · simp only [Value.slice.injEq, Option.some.injEq, Addr.mk.injEq] at hv
    obtain ⟨⟨rfl, _⟩, _⟩ := hv
    simp [World.frozen?, hg]
theorem owns_form {w : World} {base : Nat} {v : Value} {R : List Ent} (h : w.ownsRow base 89 2 v R.length (cellsOf R)) : ∃ bo bc, v = .slice bo R.length bc := by
  rcases h.2 with ⟨e, h0⟩ | ⟨g, cap, cur, e, _⟩
  · exact ⟨none, 0, by rw [e, h0]⟩
  · exact ⟨_, cap, e⟩
theorem cellsOf_set (R : List Ent) (e : Ent) (v : Value) (e' : Ent) (h1 : e'.1 = e.1) (h2 : valOf e' = v) : (cellsOf (R ++ [e])).set (R.length * 2 + 1) v = cellsOf (R ++ [e']) := by
  rw [cellsOf_append, cellsOf_append, List.set_append_right _ _ (by rw [cellsOf_length]; omega), cellsOf_length]
  have : R.length * 2 + 1 - R.length * 2 = 1 := by omega
  rw [this]
  simp [cellsOf, h1, h2]
theorem joinL_plain {M F : List Seg} (h : ∀ M' m f r, M = M' ++ [m] → F = f :: r → ¬ (m.1 = 2 ∧ f.1 = 2)) : joinL M F = M ++ F := by
  unfold joinL
  cases hm : M.getLast? with
  | none => rfl
  | some m =>
    cases F with
    | nil => rfl
    | cons f r =>
      obtain ⟨M', rfl⟩ := List.getLast?_eq_some_iff.1 hm
      show (if m.1 = 2 ∧ f.1 = 2 then _ else _) = _
      rw [if_neg (h M' m f r rfl rfl)]
theorem joinL_one (M' : List Seg) (l f : List Int) (r : List Seg) : joinL (M' ++ [(2, l)]) ((2, f) :: r) = M' ++ (2, l ++ f) :: r := by
  unfold joinL
  rw [List.getLast?_concat]
  show (if (2 : Int) = 2 ∧ (2 : Int) = 2 then (M' ++ [((2 : Int), l)]).dropLast ++ (2, l ++ f) :: r else _) = _
  rw [if_pos ⟨rfl, rfl⟩, List.dropLast_concat]
end Go.Proofs.Qxb6614704aMods
