/-
  The proof of 'Rows.FnRuleKnownMirrorSaid'. The frame is the given shell's.
-/
import Derived.Test.Qxb6618558aRows
import Derived.WalkKit
import Derived.ProofKit
import Derived.OpenShut
import Derived.ShutString
import Derived.Test.Qxb6618558aKnown
namespace Go.Proofs.Qxb6618558a.fnRuleKnownMirror
open Go.ChangeShapes Go.WideShapes Go.ChangeAt Go.RowKit
open Go.ChangeMaps (open_string shut_string)
set_option linter.unusedVariables false      -- a walk need not use every 'w<i>' (that an integer argument fits its kind)

theorem own : ownKnob Try.prog.godebug = none := by kernel_rfl

/-! ### STEP 1: THE WALK, in four cases -/
theorem low_wraps (r : Int) (h0 : -9223372036854775808 ≤ r) (h1 : r < -9223372036854775782) : wrap64 (25 - r) ≤ 25 := by
  unfold wrap64
  omega

theorem walk_low (r : Int) (w : World) (h : wrap64 (25 - r) ≤ 25) (hr : r < 0) :
    Calls Try.prog 4 #[.int .i64 r] w fun e w' => e = .returned (.bool true) ∧ w' = w := by
  go_enter Try.func4, Try.ntmps4
  go_wp2_with fail
  go_ret
  exact ⟨rfl, rfl⟩

theorem walk_neg (r : Int) (w : World) (hr : r < 0) (hb : -9223372036854775782 ≤ r) :
    Calls Try.prog 4 #[.int .i64 r] w fun e w' => e = .returned (.bool true) ∧ w' = w := by
  have d1 : decide (0 ≤ r) = false := decide_eq_false (by omega)
  have d2 : decide (25 - r ≤ 25) = false := decide_eq_false (by omega)
  go_enter Try.func4, Try.ntmps4
  go_wp2_with fail
  refine (Known.neg r _ hr).mono ?_
  rintro e w1 ⟨rfl, rfl⟩
  go_wp2_with fail
  refine (Known.far (25 - r) _ (by omega)).mono ?_
  rintro e w1 ⟨rfl, rfl⟩
  go_wp2_with fail
  go_ret
  exact ⟨rfl, rfl⟩

theorem walk_mid (r : Int) (w : World) (hr : 0 ≤ r) (hb : r ≤ 25) :
    Calls Try.prog 4 #[.int .i64 r] w fun e w' => e = .returned (.bool true) ∧ w' = w := by
  have d1 : decide (0 ≤ r) = true := decide_eq_true hr
  have d2 : decide (r ≤ 25) = true := decide_eq_true hb
  have d3 : decide (r < 0) = false := decide_eq_false (by omega)
  go_enter Try.func4, Try.ntmps4
  go_wp2_with fail
  refine (Known.mid r _ hr hb).mono ?_
  rintro e w1 ⟨rfl, rfl⟩
  go_wp2_with fail
  refine (Known.mid (25 - r) _ (by omega) (by omega)).mono ?_
  rintro e w1 ⟨rfl, rfl⟩
  go_wp2_with fail
  go_ret
  exact ⟨rfl, rfl⟩

theorem walk_above (r : Int) (w : World) (hr : 26 ≤ r) (hb : r ≤ 9223372036854775807) :
    Calls Try.prog 4 #[.int .i64 r] w fun e w' => e = .returned (.bool true) ∧ w' = w := by
  have d1 : decide (0 ≤ r) = true := decide_eq_true (by omega)
  have d2 : decide (r ≤ 25) = false := decide_eq_false (by omega)
  have d3 : decide (r < 0) = false := decide_eq_false (by omega)
  go_enter Try.func4, Try.ntmps4
  go_wp2_with fail
  refine (Known.far r _ hr).mono ?_
  rintro e w1 ⟨rfl, rfl⟩
  go_wp2_with fail
  refine (Known.neg (25 - r) _ (by omega)).mono ?_
  rintro e w1 ⟨rfl, rfl⟩
  go_wp2_with fail
  go_ret
  exact ⟨rfl, rfl⟩

theorem walk (a0 : Int) (w0 : (Lit.int .i64 a0).wf = true) (w : World) :
    Calls Try.prog 4 #[.int .i64 a0] w fun e w' => e = .returned (.bool true) ∧ Grown w w' := by
  have hb := bounds_i64 w0
  have key : Calls Try.prog 4 #[.int .i64 a0] w fun e w' => e = .returned (.bool true) ∧ w' = w := by
    by_cases h1 : a0 < -9223372036854775782
    · exact walk_low a0 w (low_wraps a0 (by omega) h1) (by omega)
    by_cases h2 : a0 < 0
    · exact walk_neg a0 w h2 (by omega)
    by_cases h3 : a0 ≤ 25
    · exact walk_mid a0 w (by omega) h3
    · exact walk_above a0 w (by omega) (by omega)
  refine key.mono ?_
  rintro e w' ⟨he, rfl⟩
  exact ⟨he, Grown.refl _⟩

/-! ### THE ROW's STEP: WRITTEN OUT: LEAVE IT -/
set_option maxRecDepth 100000 in
theorem lifted (os : Os) (started : os.Started) (H : Type) (enc : TypeId × Value → H) :
    ReturnsInHanded {} Try.checked os 4 .any (Rows.fnRuleKnownMirrorSpec.pre6 enc Try.prog Try.f4 Rows.fnRuleKnownMirrorRow.domain false) (Rows.fnRuleKnownMirrorSpec.post enc Try.prog Try.f4 false true false false) := by
  refine returnsInHanded_of_change (C := Try.checked) own started (by kernel_rfl) Try.func4
    (ChangeSpec.witness6 (enc := enc) (C := Try.checked) false ⟨#[], #[.int .i64 0], []⟩ 8 (by kernel_rfl) (by kernel_rfl) (by kernel_rfl) (by kernel_rfl)) ?_
  intro W base args ds gs before hval0 hW hcnd _
  have hval : ∀ (j : Nat) t v, Try.f4.params[j]? = some t → args[j]? = some v → Value.okWide Try.prog W .any base t v := hval0
  have hW' := hW
  obtain ⟨p, q, hA0, hV, rfl, hfz, hnd⟩ := hW
  have hA : DataW.TrodAll enc Try.prog W 0 (fun _ => true) true Try.f4.params.toList args.toList ds p := hA0
  rw [Try.params4] at hA hval
  obtain ⟨v0, vs0, d0, ds0, p0, q0, hargs, rfl, rfl, h0, r0⟩ := trodAll_cons hA
  obtain ⟨rfl, rfl, rfl⟩ := trodAll_nil r0
  obtain rfl : args = #[v0] := by cases args; simp_all
  obtain ⟨rfl, rfl⟩ := trodVars_none hV
  obtain ⟨a0, rfl, rfl, rfl, w0⟩ := open_int Try.underlying3 (hval 0 3 v0 rfl rfl) h0
  clear hA0 hval0
  simp only [List.append_nil] at hW'
  refine (walk a0 w0 W).mono fun e W' ⟨he, hg⟩ => ?_
  subst he
  exact ⟨_, rfl, post_of_same (pa := []) (pv := []) hW' (fun _ _ _ => (trodAll_cons_mk (shut_bool Try.underlying4 _) trodAll_mk0)) (fun sp _ => (trodAll_cons_mk (shut_int Try.underlying3 w0) trodAll_mk0)) (fun _ _ => rfl) rfl
    (hg.frame _) hg.2.1 (ok_one (by kernel_rfl) rfl (okWide_bool_mk Try.underlying4 _))⟩

theorem over : Rows.fnRuleKnownMirrorRow.holds Try.pinned (OpenSpec.ofChange Rows.fnRuleKnownMirrorSpec) :=
  OpenClaim.holds_of_wide 4 Try.f4 rfl rfl rfl rfl rfl rfl rfl ⟨rfl, rfl, rfl, rfl, rfl⟩ rfl rfl rfl rfl rfl (by kernel_rfl) Try.func4 (by kernel_rfl)
    (of_decide_eq_true (by kernel_rfl)) (by unfold Func.isWrapper; first | (rw [if_pos (by decide +kernel)]; kernel_rfl) | (rw [if_neg (by decide +kernel)]; exact ⟨rfl, rfl⟩))
    (fun os started H enc _ => lifted os started H enc)

/-- ████ THE STATEMENT ████ -/
theorem proved : Rows.FnRuleKnownMirrorSaid :=
  over
end Go.Proofs.Qxb6618558a.fnRuleKnownMirror
