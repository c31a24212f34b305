/-
  The functions that read a decoder.
-/
import Derived.Test.Qxb6614704aModsTurn
import Derived.BigQuiet
namespace Go.Proofs.Qxb6614704aMods
open Go.RowKit

theorem pathLen_any (ba bd : Nat) (as4 : Bool) (P : List Seg) (ag ag4 : Option Int) (F : Option (List Seg)) (w : World) (hd : Dec w ba bd as4 P ag ag4 F) :
    Calls Trym.prog 26 #[.pointer (some ⟨bd, 0, none⟩)] w fun e w' => e = .returned (.int .i64 P.length) ∧ w' = w := by
  have c7 := hd.c7
  obtain ⟨po, pc, c1, _⟩ := hd.path
  clear hd
  go_enter Trym.func26, Trym.ntmps26
  go_wp2
  go_ret
  exact ⟨rfl, rfl⟩
theorem pathTyp_any (ba bd : Nat) (as4 : Bool) (P : List Seg) (ag ag4 : Option Int) (F : Option (List Seg)) (w : World) (hd : Dec w ba bd as4 P ag ag4 F) (i : Nat) (hi : i < P.length) :
    Calls Trym.prog 28 #[.pointer (some ⟨bd, 0, none⟩), .int .i64 i] w fun e w' => e = .returned (.int .u8 (tyL P i)) ∧ w' = w := by
  have c7 := hd.c7
  obtain ⟨po, pc, c1, q2, q3, hp⟩ := hd.path
  obtain ⟨b, off, xo, xc, rfl, t0, t1, x2, x3, _⟩ := hp.back.at hi
  unfold maxLen at q3
  clear hd hp
  go_enter Trym.func28, Trym.ntmps28
  go_wp2
  go_ret
  exact ⟨rfl, rfl⟩
def RetAs (e : Ending) (w : World) (l : List Int) : Prop := ∃ xo xc, e = .returned (.slice xo l.length xc) ∧ AsnsF w xo l ∧ l.length ≤ xc ∧ xc ≤ maxLen
theorem pathASNs_any (ba bd : Nat) (as4 : Bool) (P : List Seg) (ag ag4 : Option Int) (F : Option (List Seg)) (w : World) (hd : Dec w ba bd as4 P ag ag4 F) (i : Nat) (hi : i < P.length) :
    Calls Trym.prog 27 #[.pointer (some ⟨bd, 0, none⟩), .int .i64 i] w fun e w' => RetAs e w (zsL P i) ∧ w' = w := by
  have c7 := hd.c7
  obtain ⟨po, pc, c1, q2, q3, hp⟩ := hd.path
  obtain ⟨b, off, xo, xc, rfl, t0, t1, x2, x3, ha, _⟩ := hp.back.at hi
  unfold maxLen at q3
  have HA : Hid (AsnsF w xo (zsL P i)) := ha
  clear hd hp ha
  go_enter Trym.func27, Trym.ntmps27
  go_wp2
  go_ret
  exact ⟨⟨xo, xc, rfl, HA.out, x2, x3⟩, rfl⟩
theorem hasAggr_any (ba bd : Nat) (as4 : Bool) (P : List Seg) (ag ag4 : Option Int) (F : Option (List Seg)) (w : World) (hd : Dec w ba bd as4 P ag ag4 F) :
    Calls Trym.prog 34 #[.pointer (some ⟨bd, 0, none⟩)] w fun e w' => e = .returned (.bool ag.isSome) ∧ w' = w := by
  have c7 := hd.c7
  obtain ⟨q, c14, hq⟩ := hd.agg
  clear hd
  rcases hq with ⟨rfl, rfl⟩ | ⟨z, bg, rfl, rfl, _, c⟩
  · go_enter Trym.func34, Trym.ntmps34
    go_wp2
    go_ret
    exact ⟨rfl, rfl⟩
  · go_enter Trym.func34, Trym.ntmps34
    go_wp2
    go_ret
    exact ⟨rfl, rfl⟩
theorem aggrAS_any (ba bd : Nat) (as4 : Bool) (P : List Seg) (z : Int) (ag4 : Option Int) (F : Option (List Seg)) (w : World) (hd : Dec w ba bd as4 P (some z) ag4 F) :
    Calls Trym.prog 35 #[.pointer (some ⟨bd, 0, none⟩)] w fun e w' => e = .returned (.int .u32 z) ∧ w' = w := by
  have c7 := hd.c7
  obtain ⟨q, c14, hq⟩ := hd.agg
  clear hd
  rcases hq with ⟨h, rfl⟩ | ⟨z', bg, h, rfl, _, c⟩
  · cases h
  · injection h with h
    subst h
    go_enter Trym.func35, Trym.ntmps35
    go_wp2
    go_ret
    exact ⟨rfl, rfl⟩
theorem aggrIs_any (ba bd : Nat) (as4 : Bool) (P : List Seg) (ag ag4 : Option Int) (F : Option (List Seg)) (w : World) (hd : Dec w ba bd as4 P ag ag4 F) (z : Int) (hz : ∀ y, ag = some y → y = z) :
    Calls Trym.prog 23 #[.pointer (some ⟨bd, 0, none⟩), .bool ag.isSome, .int .u32 z] w fun e w' => e = .returned (.bool true) ∧ w' = w := by
  cases ag with
  | none =>
    go_enter Trym.func23, Trym.ntmps23
    go_wp2_with fail
    refine (hasAggr_any _ _ _ _ _ _ _ _ hd).mono ?_
    rintro e w ⟨rfl, rfl⟩
    go_wp2_with fail
    go_ret
    exact ⟨rfl, rfl⟩
  | some y =>
    obtain rfl := hz y rfl
    go_enter Trym.func23, Trym.ntmps23
    go_wp2_with fail
    refine (hasAggr_any _ _ _ _ _ _ _ _ hd).mono ?_
    rintro e w ⟨rfl, rfl⟩
    go_wp2_with fail
    refine (aggrAS_any _ _ _ _ _ _ _ _ hd).mono ?_
    rintro e w ⟨rfl, rfl⟩
    go_wp2_with fail
    go_ret
    exact ⟨rfl, rfl⟩
end Go.Proofs.Qxb6614704aMods
