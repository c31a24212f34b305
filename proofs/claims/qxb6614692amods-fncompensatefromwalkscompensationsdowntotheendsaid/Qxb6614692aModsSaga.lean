/-
  The saga in memory, and the contracts of compensateFrom and end.
-/
import Derived.Test.Qxb6614692aModsBase
import Derived.Test.Qxb6614692aModsPlain
import Derived.Deep.OwnRows
namespace Go.Proofs.Qxb6614692aMods
open Go.RowKit

/-- The saga lies in block b: its state, its next step, its end, its n steps F. -/
structure Sg (w : World) (B b : Nat) (ao : Option Addr) (cap n : Nat) (F : Nat → Nat → Value) (st : ByteArray) (nx en : Int) : Prop where
  hb : B ≤ b
  row : ∃ f, w.rowIs b 71 61 f ∧ f 16 = .string st ∧ f 52 = .slice ao n cap ∧ f 53 = .int .i64 nx ∧ f 54 = .int .i64 en
  steps : 0 < n → ∃ g, ao = some ⟨g, 0, none⟩ ∧ B ≤ g ∧ g ≠ b ∧ StepsAt w g n F

section
variable {w : World} {B b : Nat} {ao : Option Addr} {cap n : Nat} {F : Nat → Nat → Value} {st : ByteArray} {nx en : Int}

theorem Sg.c16 (h : Sg w B b ao cap n F st nx en) : w.cell? ⟨b, 16, none⟩ = some (.string st) := by
  obtain ⟨f, hr, e, _⟩ := h.row; rw [← e]; exact hr.cell (by omega)
theorem Sg.c52 (h : Sg w B b ao cap n F st nx en) : w.cell? ⟨b, 52, none⟩ = some (.slice ao n cap) := by
  obtain ⟨f, hr, _, e, _⟩ := h.row; rw [← e]; exact hr.cell (by omega)
theorem Sg.c53 (h : Sg w B b ao cap n F st nx en) : w.cell? ⟨b, 53, none⟩ = some (.int .i64 nx) := by
  obtain ⟨f, hr, _, _, e, _⟩ := h.row; rw [← e]; exact hr.cell (by omega)
theorem Sg.c54 (h : Sg w B b ao cap n F st nx en) : w.cell? ⟨b, 54, none⟩ = some (.int .i64 en) := by
  obtain ⟨f, hr, _, _, _, e⟩ := h.row; rw [← e]; exact hr.cell (by omega)
theorem Sg.fz (h : Sg w B b ao cap n F st nx en) (o : Nat) : w.frozen? ⟨b, o, none⟩ = false := by
  obtain ⟨f, hr, _⟩ := h.row; exact hr.frozen o
theorem Sg.lt (h : Sg w B b ao cap n F st nx en) : b < w.heap.size := by
  obtain ⟨f, hr, _⟩ := h.row; exact hr.lt
theorem Sg.congr {G : Nat → Nat → Value} (h : Sg w B b ao cap n F st nx en) (e : ∀ i, i < n → ∀ j, j < 5 → F i j = G i j) : Sg w B b ao cap n G st nx en :=
  ⟨h.hb, h.row, fun hn => by obtain ⟨g, h1, h2, h3, h4⟩ := h.steps hn; exact ⟨g, h1, h2, h3, h4.congr e⟩⟩
theorem Sg.setSt (h : Sg w B b ao cap n F st nx en) (x : ByteArray) : Sg (w.setCell ⟨b, 16, none⟩ (.string x)) B b ao cap n F x nx en := by
  refine ⟨h.hb, ?_, fun hn => ?_⟩
  · obtain ⟨f, hr, e1, e2, e3, e4⟩ := h.row
    exact ⟨_, hr.set 16 _, by simp, by simpa using e2, by simpa using e3, by simpa using e4⟩
  · obtain ⟨g, h1, h2, h3, h4⟩ := h.steps hn
    exact ⟨g, h1, h2, h3, h4.of_block (Below.heap_setCell _ _ _ _ h3)⟩
theorem Sg.setNx (h : Sg w B b ao cap n F st nx en) (x : Int) : Sg (w.setCell ⟨b, 53, none⟩ (.int .i64 x)) B b ao cap n F st x en := by
  refine ⟨h.hb, ?_, fun hn => ?_⟩
  · obtain ⟨f, hr, e1, e2, e3, e4⟩ := h.row
    exact ⟨_, hr.set 53 _, by simpa using e1, by simpa using e2, by simp, by simpa using e4⟩
  · obtain ⟨g, h1, h2, h3, h4⟩ := h.steps hn
    exact ⟨g, h1, h2, h3, h4.of_block (Below.heap_setCell _ _ _ _ h3)⟩
theorem Sg.setEn (h : Sg w B b ao cap n F st nx en) (x : Int) : Sg (w.setCell ⟨b, 54, none⟩ (.int .i64 x)) B b ao cap n F st nx x := by
  refine ⟨h.hb, ?_, fun hn => ?_⟩
  · obtain ⟨f, hr, e1, e2, e3, e4⟩ := h.row
    exact ⟨_, hr.set 54 _, by simpa using e1, by simpa using e2, by simpa using e3, by simp⟩
  · obtain ⟨g, h1, h2, h3, h4⟩ := h.steps hn
    exact ⟨g, h1, h2, h3, h4.of_block (Below.heap_setCell _ _ _ _ h3)⟩
theorem Sg.setStep {g : Nat} (h : Sg w B b (some ⟨g, 0, none⟩) cap n F st nx en) {i j : Nat} (hi : i < n) (hj : j < 5) (v : Value) :
    Sg (w.setCell ⟨g, i * 5 + j, none⟩ v) B b (some ⟨g, 0, none⟩) cap n (fun a c => if a = i ∧ c = j then v else F a c) st nx en := by
  obtain ⟨g', h1, h2, h3, h4⟩ := h.steps (by omega)
  obtain rfl : g = g' := by injection h1 with h1; injection h1
  refine ⟨h.hb, ?_, fun _ => ⟨g, rfl, h2, h3, h4.set hi hj v⟩⟩
  obtain ⟨f, hr, e⟩ := h.row
  exact ⟨f, hr.setOther (Ne.symm h3) v, e⟩
/-- while blocks from B on stay as they are -/
theorem Sg.later {w' : World} {K : Nat} (h : Sg w B b ao cap n F st nx en) (hK : w.heap.size ≤ K) (hbel : Below K w w') : Sg w' B b ao cap n F st nx en := by
  refine ⟨h.hb, ?_, fun hn => ?_⟩
  · obtain ⟨f, hr, e⟩ := h.row
    exact ⟨f, hr.of_block (hbel.block b (Nat.lt_of_lt_of_le hr.lt hK)), e⟩
  · obtain ⟨g, h1, h2, h3, h4⟩ := h.steps hn
    exact ⟨g, h1, h2, h3, h4.of_block (hbel.block g (Nat.lt_of_lt_of_le h4.lt hK))⟩
end

theorem bel_drewN {B : Nat} {a w : World} (h : Below B a w) (n : Nat) : Below B a (w.drewN n) := ⟨h.os, h.tape, h.output, h.size, h.block⟩

set_option maxHeartbeats 800000 in
theorem end_any (w : World) (B b : Nat) (ao : Option Addr) (cap n : Nat) (F : Nat → Nat → Value) (st st2 : ByteArray) (nx en at_ : Int) (h : Sg w B b ao cap n F st nx en) (hn : n ≤ 4096) :
    Calls Trym.prog 28 #[.pointer (some ⟨b, 0, none⟩), .string st2, .int .i64 at_] w fun e w' => e = .returned (.tuple #[]) ∧ Sg w' B b ao cap n (FE F n) st2 nx at_ ∧ Below B w w' := by
  have c16 := h.c16
  have c54 := h.c54
  have c52 := h.c52
  have f16 := h.fz 16
  have f54 := h.fz 54
  have H0 : Hid _ := h
  clear h
  go_enter Trym.func28, Trym.ntmps28
  go_wp2
  go_loopw [20] (fun i wr => ∃ k : Nat, k ≤ n ∧ i = .int .i64 k ∧ Sg wr B b ao cap n (FE F k) st2 nx at_ ∧ Below B w wr) (fun i _ => n - (intOf i).toNat)
  case atStart => exact ⟨0, by omega, rfl, ((H0.out.setSt st2).setEn at_).congr (fun i _ j _ => (FE_zero F i j).symm), ((Below.refl _ _).setCell H0.out.hb _).setCell H0.out.hb _⟩
  case round =>
    clear c16 c54 c52 f16 f54 H0
    obtain ⟨k, hk, rfl, hs, hbel⟩ := hrel
    by_cases hlt : k < n
    · obtain ⟨g, rfl, hBg, hne, hst⟩ := hs.steps (by omega)
      have c52 := hs.c52
      have d0 : wr.cell? ⟨g, k * 5, none⟩ = some (FE F k k 0) := hst.cell hlt (j := 0) (by omega)
      have d1 := hst.cell hlt (j := 1) (by omega)
      have d2 := hst.cell hlt (j := 2) (by omega)
      have f0 := hst.frozen (k * 5)
      have f1 := hst.frozen (k * 5 + 1)
      have f2 := hst.frozen (k * 5 + 2)
      have HS : Hid _ := hs
      have HB : Hid _ := hbel
      have HG : Hid (B ≤ g) := hBg
      generalize FE F k k 0 = x0 at d0
      generalize FE F k k 1 = x1 at d1
      generalize FE F k k 2 = x2 at d2
      clear hs hbel hst hBg
      go_wp2
      go_roundw
      case rel =>
        refine ⟨k + 1, by omega, by go_num, ?_, ((HB.out.setCell HG.out _).setCell HG.out _).setCell HG.out _⟩
        exact (((HS.out.setStep hlt (j := 0) (by omega) _).setStep hlt (j := 1) (by omega) _).setStep hlt (j := 2) (by omega) _).congr (fun i _ j hj => FE_next F k i j hj)
      case measure => simp [intOf]; omega
    · have hkn : k = n := by omega
      subst hkn
      have HS : Hid _ := hs
      have HB : Hid _ := hbel
      clear hs hbel
      go_wp2
      go_end0
      exact ⟨rfl, HS.out, HB.out⟩

def compensating : ByteArray := ⟨#[99, 111, 109, 112, 101, 110, 115, 97, 116, 105, 110, 103]⟩
def compensated : ByteArray := ⟨#[99, 111, 109, 112, 101, 110, 115, 97, 116, 101, 100]⟩
/-- step i has no compensation -/
def Zof (C : Nat → ByteArray) (i : Nat) : Bool := (C i).toList.isEmpty

/-- What compensateFrom leaves, called at the place q - 1: the highest step below q that has a compensation is next; or there is none, and the saga has ended. -/
def CompOut (w : World) (B b : Nat) (ao : Option Addr) (cap n : Nat) (U C Bd T : Nat → ByteArray) (A : Nat → Int) (q0 q : Nat) (nx at_ : Int) : Prop :=
  (∃ j, j < q ∧ Zof C j = false ∧ (∀ i, j < i → i < q → Zof C i = true) ∧ Sg w B b ao cap n (FP U C Bd T A (Zof C) q0 j) compensating j 0) ∨
  ((∀ i, i < q → Zof C i = true) ∧ Sg w B b ao cap n (FE (FP U C Bd T A (Zof C) q0 0) n) compensated nx at_)

set_option maxHeartbeats 800000 in
theorem compensateFrom_any (w : World) (B b : Nat) (ao : Option Addr) (cap n : Nat) (U C Bd T : Nat → ByteArray) (A : Nat → Int) (q0 q : Nat) (nx fr at_ : Int)
    (h : Sg w B b ao cap n (FP U C Bd T A (Zof C) q0 q) compensating nx 0) (hn : n ≤ 4096) (hq : q ≤ q0) (hq0 : q0 ≤ n) (hfr : (fr + 1).toNat = q) (hlo : -9223372036854775808 ≤ fr) :
    Calls Trym.prog 22 #[.pointer (some ⟨b, 0, none⟩), .int .i64 fr, .int .i64 at_] w fun e w' => e = .returned (.tuple #[]) ∧ CompOut w' B b ao cap n U C Bd T A q0 q nx at_ ∧ Below B w w' := by
  have H0 : Hid _ := h
  have HF : Hid _ := hfr
  clear h hfr
  go_enter Trym.func22, Trym.ntmps22
  go_wp2
  go_loopw [6] (fun i wr => ∃ (k : Nat) (x : Int), i = .int .i64 x ∧ Hid ((x + 1).toNat = k) ∧ -9223372036854775808 ≤ x ∧ k ≤ q ∧ Hid (∀ i, k ≤ i → i < q → Zof C i = true) ∧ Sg wr B b ao cap n (FP U C Bd T A (Zof C) q0 k) compensating nx 0 ∧ Below B w wr) (fun i _ => (intOf i + 1).toNat)
  case atStart => exact ⟨q, fr, rfl, HF.out, hlo, Nat.le_refl _, fun i h1 h2 => by omega, H0.out, Below.refl _ _⟩
  case round =>
    clear H0 HF
    obtain ⟨k, x, rfl, hx, hxl, hkq, hz, hs, hbel⟩ := hrel
    rcases Nat.eq_zero_or_pos k with h0 | h0
    · subst h0
      have hx0 : x < 0 := by have := hx.out; omega
      have HS : Hid _ := hs
      have HB : Hid _ := hbel
      clear hs hbel
      go_wp2_with (go_at_call 28; refine (end_any _ B b ao cap n _ _ _ _ _ _ HS.out hn).mono ?_; rintro e w' ⟨rfl, h1, h2⟩)
      go_end0
      exact ⟨rfl, .inr ⟨fun i hi => hz.out i (Nat.zero_le _) hi, h1⟩, HB.out.trans h2⟩
    · obtain ⟨m, rfl⟩ : ∃ m, k = m + 1 := ⟨k - 1, by omega⟩
      obtain rfl : x = (m : Int) := by have := hx.out; omega
      clear hx
      obtain ⟨g, rfl, hBg, hne, hst⟩ := hs.steps (by omega)
      have c52 := hs.c52
      have d1 := hst.cell (show m < n by omega) (j := 1) (by omega)
      rw [FP_comp] at d1
      have hmn : (m : Int) < (n : Int) := by omega
      cases hzm : Zof C m
      · have hzm' : (C m).toList.isEmpty = false := hzm
        have c53 := hs.c53
        have f53 := hs.fz 53
        have HS : Hid _ := hs
        have HB : Hid _ := hbel
        clear hs hbel hst
        go_wp2
        refine bodyPost_ret (results_none rfl _ _ _) rfl ?_
        refine ⟨rfl, .inl ⟨m, by omega, hzm, fun i h1 h2 => hz.out i h1 h2, ?_⟩, HB.out.setCell HS.out.hb _⟩
        exact (HS.out.setNx m).congr (fun i _ j _ => FP_skip U C Bd T A (Zof C) q0 m i j hzm)
      · have hzm' : (C m).toList.isEmpty = true := hzm
        have d3 := hst.cell (show m < n by omega) (j := 3) (by omega)
        have f3 := hst.frozen (m * 5 + 3)
        generalize FP U C Bd T A (Zof C) q0 (m + 1) m 3 = x3 at d3
        have HS : Hid _ := hs
        have HB : Hid _ := hbel
        clear hs hbel hst
        go_wp2
        go_roundw
        case rel =>
          refine ⟨m, (m : Int) - 1, rfl, (show ((m : Int) - 1 + 1).toNat = m by omega), by omega, by omega, ?_, ?_, HB.out.setCell hBg _⟩
          · intro i h1 h2
            by_cases e : i = m
            · subst e; exact hzm
            · exact hz.out i (by omega) h2
          · exact (HS.out.setStep (show m < n by omega) (j := 3) (by omega) _).congr (fun i _ j _ => FP_pass U C Bd T A (Zof C) q0 m i j (by omega) hzm)
        case measure => simp [intOf]

theorem ZZB1CompensateFrom_any (w : World) (B b : Nat) (ao : Option Addr) (cap n : Nat) (U C Bd T : Nat → ByteArray) (A : Nat → Int) (q0 q : Nat) (nx fr at_ : Int)
    (h : Sg w B b ao cap n (FP U C Bd T A (Zof C) q0 q) compensating nx 0) (hn : n ≤ 4096) (hq : q ≤ q0) (hq0 : q0 ≤ n) (hfr : (fr + 1).toNat = q) (hlo : -9223372036854775808 ≤ fr) :
    Calls Trym.prog 15 #[.pointer (some ⟨b, 0, none⟩), .int .i64 fr, .int .i64 at_] w fun e w' => e = .returned (.tuple #[]) ∧ CompOut w' B b ao cap n U C Bd T A q0 q nx at_ ∧ Below B w w' := by
  have HF : Hid _ := hfr
  clear hfr
  go_enter Trym.func15, Trym.ntmps15
  go_wp2_with (go_at_call 22; refine (compensateFrom_any _ B b ao cap n U C Bd T A q0 q nx _ _ h hn hq hq0 HF.out hlo).mono ?_; rintro e w' ⟨rfl, h1, h2⟩)
  go_end0
  exact ⟨rfl, h1, h2⟩

theorem ZZB1SagaHead_any (w : World) (B b : Nat) (ao : Option Addr) (cap n : Nat) (F : Nat → Nat → Value) (st : ByteArray) (nx en : Int) (h : Sg w B b ao cap n F st nx en) :
    Calls Trym.prog 16 #[.pointer (some ⟨b, 0, none⟩)] w fun e w' => e = .returned (.tuple #[.string st, .int .i64 nx, .int .i64 en]) ∧ ∃ q, w' = w.drewN q := by
  have c16 := h.c16
  have c53 := h.c53
  have c54 := h.c54
  clear h
  go_enter Trym.func16, Trym.ntmps16
  go_wp2
  go_quiet (fail)
  go_wp2
  go_ret3
  exact ⟨rfl, _, rfl⟩

theorem ZZB1SagaStep_any (w : World) (B b : Nat) (ao : Option Addr) (cap n : Nat) (F : Nat → Nat → Value) (st : ByteArray) (nx en : Int) (h : Sg w B b ao cap n F st nx en) (hn : n ≤ 4096) (i : Nat) (hi : i < n)
    (x0 x1 x2 x3 : ByteArray) (x4 : Int) (e0 : F i 0 = .string x0) (e1 : F i 1 = .string x1) (e2 : F i 2 = .string x2) (e3 : F i 3 = .string x3) (e4 : F i 4 = .int .i64 x4) :
    Calls Trym.prog 17 #[.pointer (some ⟨b, 0, none⟩), .int .i64 i] w fun e w' => e = .returned (.tuple #[.string x0, .string x1, .string x2, .string x3, .int .i64 x4]) ∧ Below w.heap.size w w' := by
  obtain ⟨g, rfl, hBg, hne, hst⟩ := h.steps (by omega)
  have c52 := h.c52
  have d0 : w.cell? ⟨g, i * 5, none⟩ = some (F i 0) := hst.cell hi (j := 0) (by omega)
  have d1 := hst.cell hi (j := 1) (by omega)
  have d2 := hst.cell hi (j := 2) (by omega)
  have d3 := hst.cell hi (j := 3) (by omega)
  have d4 := hst.cell hi (j := 4) (by omega)
  rw [e0] at d0
  rw [e1] at d1
  rw [e2] at d2
  rw [e3] at d3
  rw [e4] at d4
  have hii : (i : Int) < (n : Int) := by omega
  clear e0 e1 e2 e3 e4 h hst
  go_enter Trym.func17, Trym.ntmps17
  go_wp2
  go_quiet (fail)
  go_wp2
  exact bodyPost_ret (v := .tuple #[.string x0, .string x1, .string x2, .string x3, .int .i64 x4]) (by simp [results, Trym.results17, go_sem]) rfl ⟨rfl, bel_drewN ((Below.refl _ _).alloc (Nat.le_refl _) _) _⟩

end Go.Proofs.Qxb6614692aMods
