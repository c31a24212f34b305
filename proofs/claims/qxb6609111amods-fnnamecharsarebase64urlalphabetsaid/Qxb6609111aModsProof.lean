/-
  The proof of 'Rows.FnNameCharsAreBase64URLAlphabetSaid'. The frame is the kit's own shell for this function; the walk is ours, out of the contracts of Qxb6609111aModsWalks.
-/
import Derived.Test.Qxb6609111aModsRows
import Derived.WalkKit
import Derived.ProofKit
import Derived.ShutString
import Derived.OpenShut
import Derived.WalkLawsBesides
import Derived.Test.Qxb6609111aModsWalks
namespace Go.Proofs.Qxb6609111aMods
open Go.ChangeShapes Go.WideShapes Go.ChangeAt Go.RowKit
open Go.ChangeMaps (open_string shut_string)
set_option linter.unusedVariables false      -- a walk need not use every 'w<i>' (that an integer argument fits its kind)

theorem own : ownKnob Trym.prog.godebug = none := by kernel_rfl

/-! ### STEP 1: THE WALK: the Go text returns true. 'Grown w w'': the world has at most new blocks (Derived/RowKit3.lean). Part the cases AHEAD of 'go_enter' where a test parts the walk; take each callee by a contract of your own. -/
set_option maxRecDepth 100000 in
theorem walk (a0 : Int) (w0 : (Lit.int .i32 a0).wf = true) (w : World) :
    Calls Trym.prog 3 #[.int .i32 a0] w fun e w' => e = .returned (.bool true) ∧ Grown w w' := by
  have heq : ((!nn a0) == in64 a0) = true := by rw [nn_in64]; cases in64 a0 <;> rfl
  go_enter Trym.func3, Trym.ntmps3
  go_wp2_with (first | (go_at_call 4; refine (zzNot_any _ _).mono ?_; rintro e w' ⟨rfl, rfl⟩) | (go_at_call 5; refine (zzInBase64URL_any _ _).mono ?_; rintro e w' ⟨rfl, rfl⟩))
  go_loop [3] (fun i => ∃ k : Nat, k ≤ 64 ∧ i = .int .i64 k) (fun i => 64 - (intOf i).toNat)
  case atStart => exact ⟨0, by omega, rfl⟩
  case round =>
    obtain ⟨k, hk, rfl⟩ := hrel
    by_cases hlt : k < 64
    · have hn := nn_b64 k hlt
      go_wp2_with (first | (go_at_call 6; refine (zzBase64URL_any _ hlt _).mono ?_; rintro e w' ⟨rfl, rfl⟩) | (go_at_call 4; refine (zzNot_any _ _).mono ?_; rintro e w' ⟨rfl, rfl⟩))
      go_round
      case rel => exact ⟨k + 1, by omega, by go_num⟩
      case measure => simp [intOf]; omega
    · go_wp2
      go_loop [4, 5] (fun n c => ∃ k : Nat, k ≤ 256 ∧ c = .int .i64 k ∧ n = .int .i64 (cnt k)) (fun _ c => 256 - (intOf c).toNat)
      case atStart => exact ⟨0, by omega, rfl, rfl⟩
      case round =>
        obtain ⟨m, hm, rfl, rfl⟩ := hrel
        have hc := cnt_le m
        by_cases hlm : m < 256
        · cases hnm : nn (m : Int)
          · have HY : Hid (cnt (m + 1) = cnt m + 1) := cnt_yes m hnm
            go_wp2_with (go_at_call 4; refine (zzNot_any _ _).mono ?_; rintro e w' ⟨rfl, rfl⟩)
            go_round
            case rel => exact ⟨m + 1, by omega, by go_num, by rw [HY.out]; go_num⟩
            case measure => simp [intOf]; omega
          · have HY : Hid (cnt (m + 1) = cnt m) := cnt_no m hnm
            go_wp2_with (go_at_call 4; refine (zzNot_any _ _).mono ?_; rintro e w' ⟨rfl, rfl⟩)
            go_round
            case rel => exact ⟨m + 1, by omega, by go_num, by rw [HY.out]⟩
            case measure => simp [intOf]; omega
        · have e256 : m = 256 := by omega
          subst e256
          have h64 : ((cnt 256 : Int) == 64) = true := by rw [cnt_all]; rfl
          go_wp2
          go_ret
          exact ⟨rfl, Grown.refl _⟩

/-! ### THE ROW's STEP: WRITTEN OUT: LEAVE IT -/
set_option maxRecDepth 100000 in
theorem lifted (os : Os) (started : os.Started) (H : Type) (enc : TypeId × Value → H) :
    ReturnsInHanded {} Trym.checked os 3 .any (Rows.fnNameCharsAreBase64URLAlphabetSpec.pre6 enc Trym.prog Trym.f3 Rows.fnNameCharsAreBase64URLAlphabetRow.domain false) (Rows.fnNameCharsAreBase64URLAlphabetSpec.post enc Trym.prog Trym.f3 false true false false) := by
  refine returnsInHanded_of_change (C := Trym.checked) own started (by kernel_rfl) Trym.func3
    (ChangeSpec.witness6 (enc := enc) (C := Trym.checked) false ⟨#[], #[.int .i32 0], []⟩ 8 (by kernel_rfl) (by kernel_rfl) (by kernel_rfl) (by kernel_rfl)) ?_
  intro W base args ds gs before hval0 hW hcnd _
  have hval : ∀ (j : Nat) t v, Trym.f3.params[j]? = some t → args[j]? = some v → Value.okWide Trym.prog W .any base t v := hval0
  have hW' := hW
  obtain ⟨p, q, hA0, hV, rfl, hfz, hnd⟩ := hW
  have hA : DataW.TrodAll enc Trym.prog W 0 (fun _ => true) true Trym.f3.params.toList args.toList ds p := hA0
  rw [Trym.params3] at hA hval
  obtain ⟨v0, vs0, d0, ds0, p0, q0, hargs, rfl, rfl, h0, r0⟩ := trodAll_cons hA
  obtain ⟨rfl, rfl, rfl⟩ := trodAll_nil r0
  obtain rfl : args = #[v0] := by cases args; simp_all
  obtain ⟨rfl, rfl⟩ := trodVars_none hV
  obtain ⟨a0, rfl, rfl, rfl, w0⟩ := open_int Trym.underlying21 (hval 0 21 v0 rfl rfl) h0
  clear hA0 hval0
  simp only [List.append_nil] at hW'
  refine (walk a0 w0 W).mono fun e W' ⟨he, hg⟩ => ?_
  subst he
  exact ⟨_, rfl, post_of_same (pa := []) (pv := []) hW' (fun _ _ _ => (trodAll_cons_mk (shut_bool Trym.underlying4 _) trodAll_mk0)) (fun sp _ => (trodAll_cons_mk (shut_int Trym.underlying21 w0) trodAll_mk0)) (fun _ _ => rfl) rfl
    (hg.frame _) hg.2.1 (ok_one (by kernel_rfl) rfl (okWide_bool_mk Trym.underlying4 _))⟩

theorem over : Rows.fnNameCharsAreBase64URLAlphabetRow.holds Trym.pinned (OpenSpec.ofChange Rows.fnNameCharsAreBase64URLAlphabetSpec) :=
  OpenClaim.holds_of_wide 3 Trym.f3 rfl rfl rfl rfl rfl rfl rfl ⟨rfl, rfl, rfl, rfl, rfl⟩ rfl rfl rfl rfl rfl (by kernel_rfl) Trym.func3 (by kernel_rfl)
    (of_decide_eq_true (by kernel_rfl)) (by unfold Func.isWrapper; first | (rw [if_pos (by decide +kernel)]; kernel_rfl) | (rw [if_neg (by decide +kernel)]; exact ⟨rfl, rfl⟩))
    (fun os started H enc _ => lifted os started H enc)

/-- THE STATEMENT. -/
theorem fnNameChars_proved : Rows.FnNameCharsAreBase64URLAlphabetSaid :=
  over
#print axioms fnNameChars_proved
end Go.Proofs.Qxb6609111aMods
