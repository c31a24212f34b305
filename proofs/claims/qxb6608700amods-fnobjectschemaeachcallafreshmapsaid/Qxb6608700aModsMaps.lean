/-
  The contracts of the small functions over map[string]any, by the map's reading: an element reads as the very value that it is.
-/
import Derived.Test.Qxb6608700aModsBase
import Derived.Test.Qxb6608700aModsPlain
import Derived.Maps.OwnSet
import Derived.StringKeys
import Derived.BigQuiet
import Derived.Deep.QuietTactic
namespace Go.Proofs.Qxb6608700aMods
open Go.RowKit Go.Maps
open Go.WideMaps (keyOf_string_mk)

/-- An element of type any reads as itself. -/
def heldR (v : Value) : Option (DataW Value × List MemPlace) := some (.held v, [])
/-- Block b is a map[string]any of at most n entries that reads as D. -/
def MapAt (w : World) (b n : Nat) (D : DataW Value) : Prop := w.ownsMap Trym.prog 9 heldR b n D

theorem law : Keyed Trym.prog 9 := string_keyed Trym.underlying9
theorem zero20 (w : World) : (zeroValue 20).run Trym.prog w = .ok .nilIface w := by kernel_rfl
theorem hkey {s : ByteArray} (h : s.size ≤ maxLen) : keyOf Trym.prog 9 (.string s) = some (key s) := keyOf_string_mk Trym.underlying9 h

theorem ta9 (s : ByteArray) (w : World) : (Instr.typeAssert (.iface 9 (.string s)) 20 9 true).run Trym.prog w = .ok (.tuple #[.string s, .bool true]) w := by kernel_rfl
theorem ta4 (x : Bool) (w : World) : (Instr.typeAssert (.iface 4 (.bool x)) 20 4 true).run Trym.prog w = .ok (.tuple #[.bool x, .bool true]) w := by kernel_rfl
theorem ta28 (m : Option Nat) (w : World) : (Instr.typeAssert (.iface 28 (.map m)) 20 28 true).run Trym.prog w = .ok (.tuple #[.map m, .bool true]) w := by kernel_rfl
theorem ta36 (a : Option Addr) (n c : Nat) (w : World) : (Instr.typeAssert (.iface 36 (.slice a n c)) 20 36 true).run Trym.prog w = .ok (.tuple #[.slice a n c, .bool true]) w := by kernel_rfl

theorem MapAt.look {w : World} {b n : Nat} {D : DataW Value} (h : MapAt w b n D) {s : ByteArray} (hs : s.size ≤ maxLen) {x : Value} (hat : D.atKey (key s) (.held .nilIface) = .held x) :
    (Instr.lookup 28 (.map (some b)) (.string s) false).run Trym.prog w = .ok x w := by
  obtain ⟨v, ps, hrun, hv⟩ := World.ownsMap.lookup h law Trym.underlying28 (zero20 w) (zd := .held .nilIface) (zp := []) rfl (hkey hs)
  rw [hat] at hv
  unfold heldR at hv
  injection hv with hv
  injection hv with hv _
  injection hv with hv
  rw [hrun, hv]
theorem MapAt.look_ok {w : World} {b n : Nat} {D : DataW Value} (h : MapAt w b n D) {s : ByteArray} (hs : s.size ≤ maxLen) :
    ∃ v, (Instr.lookup 28 (.map (some b)) (.string s) true).run Trym.prog w = .ok (.tuple #[v, .bool (Maps.has D (key s))]) w := by
  obtain ⟨v, ps, hrun, _⟩ := World.ownsMap.look_ok h law Trym.underlying28 (zero20 w) (zd := .held .nilIface) (zp := []) rfl (hkey hs)
  exact ⟨v, hrun⟩

/-- 'm[k] = v' of a map literal, as 'wpList_mapUpdate_own' has it for the plain store. -/
theorem wpList_insert_at (w : World) {ops : Array Oper} {rest : List Oper} {o : Oper} {a : Act} {Q : Exit → Act → World → Prop}
    (hg : o.guard = none) (m x v : Operand) (hop : o.op = Op.insert 28 m x v) (b n : Nat) (D : DataW Value)
    (hm : a.eval m = .map (some b)) (hown : MapAt w b n D) (hn : n < maxLen) (s : ByteArray) (hs : s.size ≤ maxLen) (val : Value) (hx : a.eval x = .string s) (hv : a.eval v = val)
    (hK : ∀ w', MapAt w' b (n + 1) (D.put (key s) (.held val)) → w.grownBy w' (some b) → wpList Trym.prog ops Q rest (a.put o.dst undef) w') :
    wpList Trym.prog ops Q (o :: rest) a w := by
  refine wpList_plain hg fun K' hK' => ?_
  obtain ⟨w', hrun, r1, r2⟩ := World.ownsMap.update hown law Trym.underlying28 hn (hkey hs) (val := val) (d := .held val) (ps := []) rfl
  unfold Oper.wp
  simp [execOp, hop, hm, hx, hv, hrun, Result.andThen]
  exact hK' _ _ (hK w' r1 r2)

theorem ZZsetText_any (w : World) (b n : Nat) (D : DataW Value) (s v : ByteArray) (h : MapAt w b n D) (hn : n < maxLen) (hs : s.size ≤ maxLen) :
    Calls Trym.prog 21 #[.map (some b), .string s, .string v] w fun e w' => e = .returned (.tuple #[]) ∧ MapAt w' b (n + 1) (D.put (key s) (txt v)) ∧ w.grownBy w' (some b) := by
  go_enter Trym.func21, Trym.ntmps21
  go_wp2_with (at_mapUpdate; refine wpList_mapUpdate_own _ rfl _ _ _ 28 rfl 9 20 law Trym.underlying28 heldR b n D rfl h hn _ _ _ rfl rfl (hkey hs) (txt v) [] rfl ?_; intro w1 hown1 hgrow1)
  go_end0
  exact ⟨rfl, hown1, hgrow1⟩

theorem ZZtextAt_any (w : World) (b n : Nat) (D : DataW Value) (s x : ByteArray) (h : MapAt w b n D) (hs : s.size ≤ maxLen) (hat : D.atKey (key s) (.held .nilIface) = txt x) :
    Calls Trym.prog 22 #[.map (some b), .string s] w fun e w' => e = .returned (.tuple #[.string x, .bool true]) ∧ w' = w := by
  have hrun := h.look hs hat
  have hta := ta9 x
  clear hat
  go_enter Trym.func22, Trym.ntmps22
  go_wp2
  go_ret2
  exact ⟨rfl, rfl⟩

theorem ZZflagAt_any (w : World) (b n : Nat) (D : DataW Value) (s : ByteArray) (x : Bool) (h : MapAt w b n D) (hs : s.size ≤ maxLen) (hat : D.atKey (key s) (.held .nilIface) = .held (.iface 4 (.bool x))) :
    Calls Trym.prog 37 #[.map (some b), .string s] w fun e w' => e = .returned (.tuple #[.bool x, .bool true]) ∧ w' = w := by
  have hrun := h.look hs hat
  have hta := ta4 x
  clear hat
  go_enter Trym.func37, Trym.ntmps37
  go_wp2
  go_ret2
  exact ⟨rfl, rfl⟩

theorem ZZobjectAt_any (w : World) (b n : Nat) (D : DataW Value) (s : ByteArray) (x : Option Nat) (h : MapAt w b n D) (hs : s.size ≤ maxLen) (hat : D.atKey (key s) (.held .nilIface) = .held (.iface 28 (.map x))) :
    Calls Trym.prog 38 #[.map (some b), .string s] w fun e w' => e = .returned (.tuple #[.map x, .bool true]) ∧ w' = w := by
  have hrun := h.look hs hat
  have hta := ta28 x
  clear hat
  go_enter Trym.func38, Trym.ntmps38
  go_wp2
  go_ret2
  exact ⟨rfl, rfl⟩

theorem ZZtextsAt_any (w : World) (b n : Nat) (D : DataW Value) (s : ByteArray) (ao : Option Addr) (l c : Nat) (h : MapAt w b n D) (hs : s.size ≤ maxLen) (hat : D.atKey (key s) (.held .nilIface) = .held (.iface 36 (.slice ao l c))) :
    Calls Trym.prog 25 #[.map (some b), .string s] w fun e w' => e = .returned (.tuple #[.slice ao l c, .bool true]) ∧ w' = w := by
  have hrun := h.look hs hat
  have hta := ta36 ao l c
  clear hat
  go_enter Trym.func25, Trym.ntmps25
  go_wp2
  go_ret2
  exact ⟨rfl, rfl⟩

theorem ZZhas_any (w : World) (b n : Nat) (D : DataW Value) (s : ByteArray) (h : MapAt w b n D) (hs : s.size ≤ maxLen) :
    Calls Trym.prog 24 #[.map (some b), .string s] w fun e w' => e = .returned (.bool (Maps.has D (key s))) ∧ w' = w := by
  obtain ⟨v, hrun⟩ := h.look_ok hs
  go_enter Trym.func24, Trym.ntmps24
  go_wp2
  go_ret
  exact ⟨rfl, rfl⟩

theorem ZZlen_any (w : World) (b n : Nat) (D : DataW Value) (h : MapAt w b n D) :
    Calls Trym.prog 23 #[.map (some b)] w fun e w' => e = .returned (.int .i64 (Maps.size D)) ∧ w' = w := by
  go_enter Trym.func23, Trym.ntmps23
  go_wp2_with (at_len; refine wpList_len_own _ rfl _ 28 rfl 9 20 Trym.underlying28 heldR b n D rfl h ?_)
  go_ret
  exact ⟨rfl, rfl⟩

theorem ZZnewObject_any (w : World) :
    Calls Trym.prog 35 #[] w fun e w' => e = .returned (.map (some w.heap.size)) ∧ w' = w.alloc (.map #[] 0) := by
  have hmm := @run_makeMap Trym.prog
  go_enter Trym.func35, Trym.ntmps35
  go_wp2
  go_ret
  exact ⟨rfl, rfl⟩

theorem Below.of_grown {B : Nat} {w w' : World} {b : Nat} (hg : w.grownBy w' (some b)) (hB : B ≤ b) (hs : B ≤ w.heap.size) : Below B w w' :=
  (Below.refl B w).grown hg hs (fun k e => by cases e; exact hB)

theorem objectSchema_any (w : World) (p : Nat) (ao : Option Addr) (l c : Nat) :
    Calls Trym.prog 36 #[.map (some p), .slice ao l c] w fun e w' => e = .returned (.map (some w.heap.size)) ∧ MapAt w' w.heap.size 4 (schema p (.slice ao l c) (decide (0 < l))) ∧ Below w.heap.size w w' := by
  have hmm := @run_makeMap Trym.prog
  have h0 : MapAt (w.alloc (.map #[] 0)) w.heap.size 0 (.map []) := World.ownsMap_made w Trym.prog 9 heldR
  have b0 : Below w.heap.size w (w.alloc (.map #[] 0)) := (Below.refl _ _).alloc (Nat.le_refl _) _
  by_cases hl : 0 < l
  · have HD : Hid (decide (0 < l) = true) := by simpa [Hid] using hl
    go_enter Trym.func36, Trym.ntmps36
    go_wp2_with (first
      | (at_mapUpdate; refine wpList_mapUpdate_own _ rfl _ _ _ 28 rfl 9 20 law Trym.underlying28 heldR _ _ _ rfl h0 (by decide) _ _ _ rfl rfl (hkey (by decide)) (.held _) [] rfl ?_; intro w1 hown1 hgrow1; replace b0 := b0.grown hgrow1 b0.size (fun k e => by cases e; exact Nat.le_refl _); clear hgrow1; replace h0 := hown1; clear hown1)
      | (refine wpList_insert_at _ rfl _ _ _ rfl _ _ _ rfl h0 (by decide) _ (by decide) _ rfl rfl ?_; intro w1 hown1 hgrow1; replace b0 := b0.grown hgrow1 b0.size (fun k e => by cases e; exact Nat.le_refl _); clear hgrow1; replace h0 := hown1; clear hown1))
    go_ret
    refine ⟨rfl, ?_, b0⟩
    rw [HD.out]
    exact h0
  · have hl0 : l = 0 := by omega
    subst hl0
    go_enter Trym.func36, Trym.ntmps36
    go_wp2_with (first
      | (refine wpList_insert_at _ rfl _ _ _ rfl _ _ _ rfl h0 (by decide) _ (by decide) _ rfl rfl ?_; intro w1 hown1 hgrow1; replace b0 := b0.grown hgrow1 b0.size (fun k e => by cases e; exact Nat.le_refl _); clear hgrow1; replace h0 := hown1; clear hown1))
    go_ret
    exact ⟨rfl, World.ownsMap.mono h0 (by decide), b0⟩

theorem ZZobjectSchema_any (w : World) (p : Nat) (ao : Option Addr) (l c : Nat) :
    Calls Trym.prog 20 #[.map (some p), .slice ao l c] w fun e w' => e = .returned (.map (some w.heap.size)) ∧ MapAt w' w.heap.size 4 (schema p (.slice ao l c) (decide (0 < l))) ∧ Below w.heap.size w w' := by
  go_enter Trym.func20, Trym.ntmps20
  go_wp2_with (go_at_call 36; refine (objectSchema_any _ _ _ _ _).mono ?_; rintro e w' ⟨rfl, h1, h2⟩)
  go_ret
  exact ⟨rfl, h1, h2⟩

/-! ### memory that came in, read later -/
theorem cell_lt {w : World} {a : Addr} {v : Value} (h : w.cell? a = some v) : a.block < w.heap.size := World.block_lt_of_cell? w a h
theorem PropsAt.later {w w' : World} {ao : Option Addr} {len : Nat} {N V : Nat → ByteArray} {B : Nat} (h : PropsAt w ao len N V) (hB : w.heap.size ≤ B) (hb : Below B w w') : PropsAt w' ao len N V := by
  rcases h with h | ⟨b, off, e, h⟩
  · exact .inl h
  · refine .inr ⟨b, off, e, fun i hi => ?_⟩
    obtain ⟨h1, h2, h3, h4⟩ := h i hi
    have hlt : b < B := Nat.lt_of_lt_of_le (cell_lt h1) hB
    exact ⟨(hb.cell (p := ⟨b, _, none⟩) hlt).trans h1, (hb.cell (p := ⟨b, _, none⟩) hlt).trans h2, h3, h4⟩
theorem StrsAt.later {w w' : World} {ao : Option Addr} {len : Nat} {S : Nat → ByteArray} {B : Nat} (h : StrsAt w ao len S) (hB : w.heap.size ≤ B) (hb : Below B w w') : StrsAt w' ao len S := by
  rcases h with h | ⟨b, off, e, h⟩
  · exact .inl h
  · refine .inr ⟨b, off, e, fun i hi => ?_⟩
    obtain ⟨h1, h2⟩ := h i hi
    have hlt : b < B := Nat.lt_of_lt_of_le (cell_lt h1) hB
    exact ⟨(hb.cell (p := ⟨b, _, none⟩) hlt).trans h1, h2⟩
theorem MapAt.later {w w' : World} {b n : Nat} {D : DataW Value} {B : Nat} (h : MapAt w b n D) (hB : b < B) (hb : Below B w w') : MapAt w' b n D := by
  obtain ⟨es, clock, h1, r⟩ := h
  exact ⟨es, clock, (hb.block b hB).trans h1, r⟩

/-! ### zzLastValue, zzSameStrings, zzDistinctNames -/
theorem ret_str {a b : ByteArray} (h : a = b) : Ending.returned (.string a) = .returned (.string b) := by rw [h]
theorem ret_int {k : IntKind} {a b : Int} (h : a = b) : Ending.returned (.int k a) = .returned (.int k b) := by rw [h]

set_option maxHeartbeats 400000 in
theorem zzLastValue_any (ao : Option Addr) (len cap : Nat) (N V : Nat → ByteArray) (s : ByteArray) (w : World) (hp : PropsAt w ao len N V) (hl : len ≤ 4096) :
    Calls Trym.prog 40 #[.slice ao len cap, .string s] w fun e w' => e = .returned (.string (lastVal N V s len)) ∧ w' = w := by
  go_enter Trym.func40, Trym.ntmps40
  go_wp2
  go_loop [5] (fun i => ∃ k : Nat, k ≤ len ∧ i = .int .i64 ((k : Int) - 1) ∧ Hid (lastVal N V s len = lastVal N V s k)) (fun i => (intOf i + 1).toNat)
  case atStart => exact ⟨len, by omega, rfl, rfl⟩
  case round =>
    obtain ⟨k, hk, rfl, HL⟩ := hrel
    rcases Nat.eq_zero_or_pos k with h0 | h0
    · subst h0
      go_wp2
      go_ret
      exact ⟨ret_str HL.out.symm, rfl⟩
    · obtain ⟨m, rfl⟩ : ∃ m, k = m + 1 := ⟨k - 1, by omega⟩
      obtain ⟨b, off, rfl, c0, c1, s0, s1⟩ := hp.at (i := m) (by omega)
      rw [show ((m + 1 : Nat) : Int) - 1 = (m : Int) from by omega]
      cases he : ((N m).toList == s.toList)
      · have HE : Hid (lastVal N V s (m + 1) = lastVal N V s m) := by simp [Hid, lastVal, he]
        go_wp2
        go_round
        case rel => exact ⟨m, by omega, rfl, HL.out.trans HE.out⟩
        case measure => simp [intOf]
      · have HE : Hid (lastVal N V s (m + 1) = V m) := by simp [Hid, lastVal, he]
        go_wp2
        go_ret
        exact ⟨ret_str (HL.out.trans HE.out).symm, rfl⟩

set_option maxHeartbeats 400000 in
theorem zzSameStrings_any (ao bo : Option Addr) (len ca cb : Nat) (S : Nat → ByteArray) (w : World) (ha : StrsAt w ao len S) (hb : StrsAt w bo len S) (hl : len ≤ 65536) :
    Calls Trym.prog 26 #[.slice ao len ca, .slice bo len cb] w fun e w' => e = .returned (.bool true) ∧ ∃ n, w' = w.drewN n := by
  go_enter Trym.func26, Trym.ntmps26
  go_wp2
  go_loopw [5] (fun i wr => ∃ k : Nat, k ≤ len ∧ i = .int .i64 k ∧ ∃ n, wr = w.drewN n) (fun i _ => len - (intOf i).toNat)
  case atStart => exact ⟨0, by omega, rfl, 0, rfl⟩
  case round =>
    obtain ⟨k, hk, rfl, n, rfl⟩ := hrel
    by_cases hlt : k < len
    · obtain ⟨b, off, rfl, c0, s0⟩ := ha.at hlt
      obtain ⟨b2, off2, rfl, c1, s1⟩ := hb.at hlt
      have hki : (k : Int) < (len : Int) := by omega
      have heq := same_refl (S k)
      go_wp2
      go_quiet (fail)
      go_wp2
      go_roundw
      case rel => exact ⟨k + 1, by omega, by go_num, _, by first | rfl | (simp; rfl)⟩
      case measure => simp [intOf]; omega
    · go_wp2
      go_ret
      exact ⟨rfl, n, rfl⟩

end Go.Proofs.Qxb6608700aMods
