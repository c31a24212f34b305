/-
  The law's own walk, out of the contracts.
-/
import Derived.Test.Qxb6608700aModsFrame
namespace Go.Proofs.Qxb6608700aMods
open Go.RowKit Go.Maps

theorem lType : kType.toList = [116, 121, 112, 101] := by rw [ByteArray.toList_eq]; rfl
theorem lProps : kProps.toList = [112, 114, 111, 112, 101, 114, 116, 105, 101, 115] := by rw [ByteArray.toList_eq]; rfl
theorem lAdd : kAdd.toList = [97, 100, 100, 105, 116, 105, 111, 110, 97, 108, 80, 114, 111, 112, 101, 114, 116, 105, 101, 115] := by rw [ByteArray.toList_eq]; rfl
theorem lReq : kReq.toList = [114, 101, 113, 117, 105, 114, 101, 100] := by rw [ByteArray.toList_eq]; rfl

/-- The ways through the test on the key, something being required. -/
theorem waysReq (ky : ByteArray) : (known true ky = true ∧ ((ky.toList == [116, 121, 112, 101]) = true ∨ ((ky.toList == [116, 121, 112, 101]) = false ∧ (ky.toList == [112, 114, 111, 112, 101, 114, 116, 105, 101, 115]) = true) ∨ ((ky.toList == [116, 121, 112, 101]) = false ∧ (ky.toList == [112, 114, 111, 112, 101, 114, 116, 105, 101, 115]) = false ∧ (ky.toList == [97, 100, 100, 105, 116, 105, 111, 110, 97, 108, 80, 114, 111, 112, 101, 114, 116, 105, 101, 115]) = true) ∨ ((ky.toList == [116, 121, 112, 101]) = false ∧ (ky.toList == [112, 114, 111, 112, 101, 114, 116, 105, 101, 115]) = false ∧ (ky.toList == [97, 100, 100, 105, 116, 105, 111, 110, 97, 108, 80, 114, 111, 112, 101, 114, 116, 105, 101, 115]) = false ∧ (ky.toList == [114, 101, 113, 117, 105, 114, 101, 100]) = true))) ∨ (known true ky = false ∧ ((ky.toList == [116, 121, 112, 101]) = false ∧ (ky.toList == [112, 114, 111, 112, 101, 114, 116, 105, 101, 115]) = false ∧ (ky.toList == [97, 100, 100, 105, 116, 105, 111, 110, 97, 108, 80, 114, 111, 112, 101, 114, 116, 105, 101, 115]) = false ∧ (ky.toList == [114, 101, 113, 117, 105, 114, 101, 100]) = false)) := by
  unfold known
  rw [lType, lProps, lAdd, lReq]
  cases (ky.toList == [116, 121, 112, 101]) <;> cases (ky.toList == [112, 114, 111, 112, 101, 114, 116, 105, 101, 115]) <;> cases (ky.toList == [97, 100, 100, 105, 116, 105, 111, 110, 97, 108, 80, 114, 111, 112, 101, 114, 116, 105, 101, 115]) <;> cases (ky.toList == [114, 101, 113, 117, 105, 114, 101, 100]) <;> simp
/-- .. nothing being required. -/
theorem waysNone (ky : ByteArray) : (known false ky = true ∧ ((ky.toList == [116, 121, 112, 101]) = true ∨ ((ky.toList == [116, 121, 112, 101]) = false ∧ (ky.toList == [112, 114, 111, 112, 101, 114, 116, 105, 101, 115]) = true) ∨ ((ky.toList == [116, 121, 112, 101]) = false ∧ (ky.toList == [112, 114, 111, 112, 101, 114, 116, 105, 101, 115]) = false ∧ (ky.toList == [97, 100, 100, 105, 116, 105, 111, 110, 97, 108, 80, 114, 111, 112, 101, 114, 116, 105, 101, 115]) = true))) ∨ (known false ky = false ∧ (((ky.toList == [116, 121, 112, 101]) = false ∧ (ky.toList == [112, 114, 111, 112, 101, 114, 116, 105, 101, 115]) = false ∧ (ky.toList == [97, 100, 100, 105, 116, 105, 111, 110, 97, 108, 80, 114, 111, 112, 101, 114, 116, 105, 101, 115]) = false ∧ (ky.toList == [114, 101, 113, 117, 105, 114, 101, 100]) = true) ∨ ((ky.toList == [116, 121, 112, 101]) = false ∧ (ky.toList == [112, 114, 111, 112, 101, 114, 116, 105, 101, 115]) = false ∧ (ky.toList == [97, 100, 100, 105, 116, 105, 111, 110, 97, 108, 80, 114, 111, 112, 101, 114, 116, 105, 101, 115]) = false ∧ (ky.toList == [114, 101, 113, 117, 105, 114, 101, 100]) = false))) := by
  unfold known
  rw [lType, lProps, lAdd, lReq]
  cases (ky.toList == [116, 121, 112, 101]) <;> cases (ky.toList == [112, 114, 111, 112, 101, 114, 116, 105, 101, 115]) <;> cases (ky.toList == [97, 100, 100, 105, 116, 105, 111, 110, 97, 108, 80, 114, 111, 112, 101, 114, 116, 105, 101, 115]) <;> cases (ky.toList == [114, 101, 113, 117, 105, 114, 101, 100]) <;> simp

theorem bel_drewN {B : Nat} {a w : World} (h : Below B a w) (n : Nat) : Below B a (w.drewN n) := ⟨h.os, h.tape, h.output, h.size, h.block⟩

set_option maxHeartbeats 8000000 in
theorem walk (ao : Option Addr) (len cap : Nat) (N V : Nat → ByteArray) (bo : Option Addr) (len2 cap2 : Nat) (S : Nat → ByteArray) (ky vl : ByteArray) (w : World) (hp : PropsAt w ao len N V) (hs : StrsAt w bo len2 S)
    (hl : len ≤ maxLen) (hl2 : len2 ≤ maxLen) (hk : ky.size ≤ maxLen) (hv : vl.size ≤ maxLen) (hn : bo = none → len2 = 0 ∧ cap2 = 0) :
    Calls Trym.prog 5 #[.slice ao len cap, .slice bo len2 cap2, .string ky, .string vl] w fun e w' => e = .returned (.bool true) ∧ Below w.heap.size w w' := by
  have HN : Hid _ := hn
  clear hn
  go_enter Trym.func5, Trym.ntmps5
  go_wp2_with fail
  refine (zzBytes_any ao len cap N V bo len2 cap2 S ky vl _ hp hs hl hl2 hk hv).mono ?_
  rintro e w ⟨⟨t, rfl⟩, rfl⟩
  unfold maxLen at hl hl2 hk hv
  cases t
  · go_wp2_with fail
    go_ret
    exact ⟨rfl, Below.refl _ _⟩
  by_cases a1 : 4096 < len
  · go_wp2_with fail
    go_ret
    exact ⟨rfl, Below.refl _ _⟩
  by_cases a2 : 65536 < len2
  · go_wp2_with fail
    go_ret
    exact ⟨rfl, Below.refl _ _⟩
  by_cases a3 : 65536 < ky.size
  · go_wp2_with fail
    go_ret
    exact ⟨rfl, Below.refl _ _⟩
  by_cases a4 : 65536 < vl.size
  · go_wp2_with fail
    go_ret
    exact ⟨rfl, Below.refl _ _⟩
  go_wp2_with fail
  refine (zzPropBytes_any _ _ _ N V _ hp (by omega)).mono ?_
  rintro e w ⟨⟨k1, rfl, k10, k11⟩, rfl⟩
  go_wp2_with fail
  refine (zzStringsBytes_any _ _ _ S _ hs (by omega)).mono ?_
  rintro e w ⟨⟨k2, rfl, k20, k21⟩, rfl⟩
  go_wp2_with fail
  refine (zzAdd_any _ _ (by omega) (by omega) _).mono ?_
  rintro e w ⟨⟨k3, rfl, k30, k31⟩, rfl⟩
  go_wp2_with fail
  refine (zzAdd_any _ _ (by omega) (by omega) _).mono ?_
  rintro e w ⟨⟨k4, rfl, k40, k41⟩, rfl⟩
  go_wp2_with fail
  refine (zzAdd_any _ _ (by omega) (by omega) _).mono ?_
  rintro e w ⟨⟨k5, rfl, k50, k51⟩, rfl⟩
  by_cases a5 : 1048576 < k5
  · go_wp2_with fail
    go_ret
    exact ⟨rfl, Below.refl _ _⟩
  go_wp2_with fail
  refine (zzCloneStrings_any _ _ _ S _ hs (by omega) HN.out).mono ?_
  rintro e w1 ⟨⟨co, cc, rfl, hs1⟩, hb1⟩
  have HP : Hid (PropsAt w1 ao len N V) := hp.later (Nat.le_refl _) hb1
  have HB1 : Hid (Below w.heap.size w w1) := hb1
  have HS : Hid (StrsAt w1 co len2 S) := hs1
  clear hb1 hs1 hp hs
  go_wp2_with fail
  refine (zzBuildProps_any _ _ _ N V _ HP.out (by omega)).mono ?_
  rintro e w2 ⟨rfl, hm2, hb2⟩
  replace HP : Hid (PropsAt w2 ao len N V) := HP.out.later (Nat.le_refl _) hb2
  replace HS : Hid (StrsAt w2 co len2 S) := HS.out.later (Nat.le_refl _) hb2
  have HB2 : Hid (Below w.heap.size w w2) := HB1.out.trans (hb2.mono HB1.out.size)
  have HM2 : Hid (MapAt w2 w1.heap.size len (built N V len)) := hm2
  clear hb2 hm2 HB1
  generalize w1.heap.size = p at *
  go_wp2_with fail
  refine (ZZobjectSchema_any _ _ _ _ _).mono ?_
  rintro e w3 ⟨rfl, hm3, hb3⟩
  have HM3 : Hid _ := hm3
  have HB3 : Hid _ := hb3
  clear hm3 hb3
  go_wp2_with fail
  refine (ZZobjectSchema_any _ _ _ _ _).mono ?_
  rintro e w4 ⟨rfl, hm4, hb4⟩
  have hp2 : p < w2.heap.size := World.ownsMap.lt HM2.out
  have h23 : w2.heap.size < w3.heap.size := World.ownsMap.lt HM3.out
  have HM4 : Hid (MapAt w4 w3.heap.size 4 (schema p (.slice co len2 cc) (decide (0 < len2)))) := hm4
  have HM1 : Hid (MapAt w4 w2.heap.size 4 (schema p (.slice co len2 cc) (decide (0 < len2)))) := MapAt.later HM3.out h23 hb4
  have HB4 : Hid (Below w2.heap.size w2 w4) := HB3.out.trans (hb4.mono (Nat.le_of_lt h23))
  have hs4 : w2.heap.size ≤ w4.heap.size := HB4.out.size
  clear hm4 hb4 HM3 HB3
  have HK : Hid (ky.size ≤ maxLen) := by unfold maxLen; exact hk
  have hmn := fun (w : World) (r : Option Nat) => run_eql_map_nil (P := Trym.prog) w 28 9 20 r Trym.underlying28
  by_cases h0 : 0 < len2
  · rw [show decide (0 < len2) = true from by simpa using h0] at HM4 HM1
    rcases waysReq ky with ⟨hkn, hw⟩ | ⟨hkn, hw⟩
    · have hz1 : (((Maps.size ((schema p (.slice co len2 cc) true).put (key ky) (txt vl)) : Nat) : Int) != 4) = false := by rw [size_put_schema, hkn]; rfl
      have hz2 : (((Maps.size (schema p (.slice co len2 cc) true) : Nat) : Int) != 4) = false := by rw [size_schema]; rfl
      have hh : Maps.has (schema p (.slice co len2 cc) true) (key ky) = true := by rw [has_schema, hkn]
      clear hkn
      rcases hw with h1 | ⟨h1, h2⟩ | ⟨h1, h2, h3⟩ | ⟨h1, h2, h3, h4⟩
      all_goals
        go_wp2_with fail
        refine (ZZsetText_any _ w2.heap.size 4 (schema p (.slice co len2 cc) true) ky vl HM1.out (by decide) HK.out).mono ?_
        rintro e w5 ⟨rfl, hm5, hg5⟩
        have HM5 : Hid (MapAt w5 w2.heap.size 5 ((schema p (.slice co len2 cc) true).put (key ky) (txt vl))) := hm5
        have HS2 : Hid (MapAt w5 w3.heap.size 4 (schema p (.slice co len2 cc) true)) := World.ownsMap.kept HM4.out hg5 (fun e => by injection e with e; omega)
        have HB5 : Hid (Below w2.heap.size w2 w5) := HB4.out.trans (Below.of_grown hg5 (Nat.le_refl _) hs4)
        have HP5 : Hid (PropsAt w5 ao len N V) := HP.out.later (Nat.le_refl _) HB5.out
        have HS5 : Hid (StrsAt w5 co len2 S) := HS.out.later (Nat.le_refl _) HB5.out
        have HMp : Hid (MapAt w5 p len (built N V len)) := MapAt.later HM2.out hp2 HB5.out
        clear hm5 hg5
        go_wp2_with fail
        refine (ZZtextAt_any _ w2.heap.size 5 ((schema p (.slice co len2 cc) true).put (key ky) (txt vl)) ky vl HM5.out HK.out (atKey_put_same (schema_tidy _ _ _).isMap (keyLit _) _ _)).mono ?_
        rintro e w5 ⟨rfl, rfl⟩
        go_wp2_with fail
        refine (ZZlen_any _ w2.heap.size 5 ((schema p (.slice co len2 cc) true).put (key ky) (txt vl)) HM5.out).mono ?_
        rintro e w5 ⟨rfl, rfl⟩
        go_wp2_with fail
        refine (ZZlen_any _ w3.heap.size 4 (schema p (.slice co len2 cc) true) HS2.out).mono ?_
        rintro e w5 ⟨rfl, rfl⟩
        go_wp2_with fail
        refine (ZZhas_any _ w3.heap.size 4 (schema p (.slice co len2 cc) true) ky HS2.out HK.out).mono ?_
        rintro e w5 ⟨rfl, rfl⟩
        go_wp2_with fail
        refine (ZZtextsAt_any _ w3.heap.size 4 (schema p (.slice co len2 cc) true) _ co len2 cc HS2.out (by decide) (at_req p _ _)).mono ?_
        rintro e w5 ⟨rfl, rfl⟩
        go_wp2_with fail
        refine (zzSameStrings_any co co len2 cc cc S _ HS5.out HS5.out (by omega)).mono ?_
        rintro e w6 ⟨rfl, n6, hw6⟩
        subst hw6
        go_wp2_with fail
        refine (zzSchemaFrame_any ao len cap N V _ w3.heap.size 4 p len _ true (by exact HP5.out) (by omega) (by exact HS2.out) (by exact HMp.out)).mono ?_
        rintro e w7 ⟨rfl, n7, hw7⟩
        subst hw7
        go_wp2_with fail
        go_ret
        exact ⟨rfl, bel_drewN (HB2.out.trans (HB5.out.mono HB2.out.size)) _⟩
    · have hz1 : (((Maps.size ((schema p (.slice co len2 cc) true).put (key ky) (txt vl)) : Nat) : Int) != 5) = false := by rw [size_put_schema, hkn]; rfl
      have hz2 : (((Maps.size (schema p (.slice co len2 cc) true) : Nat) : Int) != 4) = false := by rw [size_schema]; rfl
      have hh : Maps.has (schema p (.slice co len2 cc) true) (key ky) = false := by rw [has_schema, hkn]
      clear hkn
      rcases hw with ⟨h1, h2, h3, h4⟩
      all_goals
        go_wp2_with fail
        refine (ZZsetText_any _ w2.heap.size 4 (schema p (.slice co len2 cc) true) ky vl HM1.out (by decide) HK.out).mono ?_
        rintro e w5 ⟨rfl, hm5, hg5⟩
        have HM5 : Hid (MapAt w5 w2.heap.size 5 ((schema p (.slice co len2 cc) true).put (key ky) (txt vl))) := hm5
        have HS2 : Hid (MapAt w5 w3.heap.size 4 (schema p (.slice co len2 cc) true)) := World.ownsMap.kept HM4.out hg5 (fun e => by injection e with e; omega)
        have HB5 : Hid (Below w2.heap.size w2 w5) := HB4.out.trans (Below.of_grown hg5 (Nat.le_refl _) hs4)
        have HP5 : Hid (PropsAt w5 ao len N V) := HP.out.later (Nat.le_refl _) HB5.out
        have HS5 : Hid (StrsAt w5 co len2 S) := HS.out.later (Nat.le_refl _) HB5.out
        have HMp : Hid (MapAt w5 p len (built N V len)) := MapAt.later HM2.out hp2 HB5.out
        clear hm5 hg5
        go_wp2_with fail
        refine (ZZtextAt_any _ w2.heap.size 5 ((schema p (.slice co len2 cc) true).put (key ky) (txt vl)) ky vl HM5.out HK.out (atKey_put_same (schema_tidy _ _ _).isMap (keyLit _) _ _)).mono ?_
        rintro e w5 ⟨rfl, rfl⟩
        go_wp2_with fail
        refine (ZZlen_any _ w2.heap.size 5 ((schema p (.slice co len2 cc) true).put (key ky) (txt vl)) HM5.out).mono ?_
        rintro e w5 ⟨rfl, rfl⟩
        go_wp2_with fail
        refine (ZZlen_any _ w3.heap.size 4 (schema p (.slice co len2 cc) true) HS2.out).mono ?_
        rintro e w5 ⟨rfl, rfl⟩
        go_wp2_with fail
        refine (ZZhas_any _ w3.heap.size 4 (schema p (.slice co len2 cc) true) ky HS2.out HK.out).mono ?_
        rintro e w5 ⟨rfl, rfl⟩
        go_wp2_with fail
        refine (ZZtextsAt_any _ w3.heap.size 4 (schema p (.slice co len2 cc) true) _ co len2 cc HS2.out (by decide) (at_req p _ _)).mono ?_
        rintro e w5 ⟨rfl, rfl⟩
        go_wp2_with fail
        refine (zzSameStrings_any co co len2 cc cc S _ HS5.out HS5.out (by omega)).mono ?_
        rintro e w6 ⟨rfl, n6, hw6⟩
        subst hw6
        go_wp2_with fail
        refine (zzSchemaFrame_any ao len cap N V _ w3.heap.size 4 p len _ true (by exact HP5.out) (by omega) (by exact HS2.out) (by exact HMp.out)).mono ?_
        rintro e w7 ⟨rfl, n7, hw7⟩
        subst hw7
        go_wp2_with fail
        go_ret
        exact ⟨rfl, bel_drewN (HB2.out.trans (HB5.out.mono HB2.out.size)) _⟩
  · obtain rfl : len2 = 0 := by omega
    rw [show decide (0 < 0) = false from rfl] at HM4 HM1
    rcases waysNone ky with ⟨hkn, hw⟩ | ⟨hkn, hw⟩
    · have hz1 : (((Maps.size ((schema p (.slice co 0 cc) false).put (key ky) (txt vl)) : Nat) : Int) != 3) = false := by rw [size_put_schema, hkn]; rfl
      have hz2 : (((Maps.size (schema p (.slice co 0 cc) false) : Nat) : Int) != 3) = false := by rw [size_schema]; rfl
      have hh : Maps.has (schema p (.slice co 0 cc) false) (key ky) = true := by rw [has_schema, hkn]
      clear hkn
      rcases hw with h1 | ⟨h1, h2⟩ | ⟨h1, h2, h3⟩
      all_goals
        go_wp2_with fail
        refine (ZZsetText_any _ w2.heap.size 4 (schema p (.slice co 0 cc) false) ky vl HM1.out (by decide) HK.out).mono ?_
        rintro e w5 ⟨rfl, hm5, hg5⟩
        have HM5 : Hid (MapAt w5 w2.heap.size 5 ((schema p (.slice co 0 cc) false).put (key ky) (txt vl))) := hm5
        have HS2 : Hid (MapAt w5 w3.heap.size 4 (schema p (.slice co 0 cc) false)) := World.ownsMap.kept HM4.out hg5 (fun e => by injection e with e; omega)
        have HB5 : Hid (Below w2.heap.size w2 w5) := HB4.out.trans (Below.of_grown hg5 (Nat.le_refl _) hs4)
        have HP5 : Hid (PropsAt w5 ao len N V) := HP.out.later (Nat.le_refl _) HB5.out
        have HS5 : Hid (StrsAt w5 co 0 S) := HS.out.later (Nat.le_refl _) HB5.out
        have HMp : Hid (MapAt w5 p len (built N V len)) := MapAt.later HM2.out hp2 HB5.out
        clear hm5 hg5
        go_wp2_with fail
        refine (ZZtextAt_any _ w2.heap.size 5 ((schema p (.slice co 0 cc) false).put (key ky) (txt vl)) ky vl HM5.out HK.out (atKey_put_same (schema_tidy _ _ _).isMap (keyLit _) _ _)).mono ?_
        rintro e w5 ⟨rfl, rfl⟩
        go_wp2_with fail
        refine (ZZlen_any _ w2.heap.size 5 ((schema p (.slice co 0 cc) false).put (key ky) (txt vl)) HM5.out).mono ?_
        rintro e w5 ⟨rfl, rfl⟩
        go_wp2_with fail
        refine (ZZlen_any _ w3.heap.size 4 (schema p (.slice co 0 cc) false) HS2.out).mono ?_
        rintro e w5 ⟨rfl, rfl⟩
        go_wp2_with fail
        refine (ZZhas_any _ w3.heap.size 4 (schema p (.slice co 0 cc) false) ky HS2.out HK.out).mono ?_
        rintro e w5 ⟨rfl, rfl⟩
        go_wp2_with fail
        refine (zzSchemaFrame_any ao len cap N V _ w3.heap.size 4 p len _ false (by exact HP5.out) (by omega) (by exact HS2.out) (by exact HMp.out)).mono ?_
        rintro e w7 ⟨rfl, n7, hw7⟩
        subst hw7
        go_wp2_with fail
        go_ret
        exact ⟨rfl, bel_drewN (HB2.out.trans (HB5.out.mono HB2.out.size)) _⟩
    · have hz1 : (((Maps.size ((schema p (.slice co 0 cc) false).put (key ky) (txt vl)) : Nat) : Int) != 4) = false := by rw [size_put_schema, hkn]; rfl
      have hz2 : (((Maps.size (schema p (.slice co 0 cc) false) : Nat) : Int) != 3) = false := by rw [size_schema]; rfl
      have hh : Maps.has (schema p (.slice co 0 cc) false) (key ky) = false := by rw [has_schema, hkn]
      clear hkn
      rcases hw with ⟨h1, h2, h3, h4⟩ | ⟨h1, h2, h3, h4⟩
      all_goals
        go_wp2_with fail
        refine (ZZsetText_any _ w2.heap.size 4 (schema p (.slice co 0 cc) false) ky vl HM1.out (by decide) HK.out).mono ?_
        rintro e w5 ⟨rfl, hm5, hg5⟩
        have HM5 : Hid (MapAt w5 w2.heap.size 5 ((schema p (.slice co 0 cc) false).put (key ky) (txt vl))) := hm5
        have HS2 : Hid (MapAt w5 w3.heap.size 4 (schema p (.slice co 0 cc) false)) := World.ownsMap.kept HM4.out hg5 (fun e => by injection e with e; omega)
        have HB5 : Hid (Below w2.heap.size w2 w5) := HB4.out.trans (Below.of_grown hg5 (Nat.le_refl _) hs4)
        have HP5 : Hid (PropsAt w5 ao len N V) := HP.out.later (Nat.le_refl _) HB5.out
        have HS5 : Hid (StrsAt w5 co 0 S) := HS.out.later (Nat.le_refl _) HB5.out
        have HMp : Hid (MapAt w5 p len (built N V len)) := MapAt.later HM2.out hp2 HB5.out
        clear hm5 hg5
        go_wp2_with fail
        refine (ZZtextAt_any _ w2.heap.size 5 ((schema p (.slice co 0 cc) false).put (key ky) (txt vl)) ky vl HM5.out HK.out (atKey_put_same (schema_tidy _ _ _).isMap (keyLit _) _ _)).mono ?_
        rintro e w5 ⟨rfl, rfl⟩
        go_wp2_with fail
        refine (ZZlen_any _ w2.heap.size 5 ((schema p (.slice co 0 cc) false).put (key ky) (txt vl)) HM5.out).mono ?_
        rintro e w5 ⟨rfl, rfl⟩
        go_wp2_with fail
        refine (ZZlen_any _ w3.heap.size 4 (schema p (.slice co 0 cc) false) HS2.out).mono ?_
        rintro e w5 ⟨rfl, rfl⟩
        go_wp2_with fail
        refine (ZZhas_any _ w3.heap.size 4 (schema p (.slice co 0 cc) false) ky HS2.out HK.out).mono ?_
        rintro e w5 ⟨rfl, rfl⟩
        go_wp2_with fail
        refine (zzSchemaFrame_any ao len cap N V _ w3.heap.size 4 p len _ false (by exact HP5.out) (by omega) (by exact HS2.out) (by exact HMp.out)).mono ?_
        rintro e w7 ⟨rfl, n7, hw7⟩
        subst hw7
        go_wp2_with fail
        go_ret
        exact ⟨rfl, bel_drewN (HB2.out.trans (HB5.out.mono HB2.out.size)) _⟩

end Go.Proofs.Qxb6608700aMods
