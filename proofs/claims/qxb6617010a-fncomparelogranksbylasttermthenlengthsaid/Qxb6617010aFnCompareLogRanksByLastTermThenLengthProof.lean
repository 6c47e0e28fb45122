/-
  The proof of 'Rows.FnCompareLogRanksByLastTermThenLengthSaid'.
-/
import Derived.Test.Qxb6617010aRows
import Derived.WalkKit
import Derived.ProofKit
import Derived.OpenShut
import Derived.ShutString
import Derived.ChangeOld
import Derived.Below
import Derived.Test.Qxb6617010aOpenLog
import Derived.Test.Qxb6617010aRanks
namespace Go.Proofs.Qxb6617010a.fnCompareLogRanksByLastTermThenLength
open Go.ChangeShapes Go.WideShapes Go.ChangeAt Go.RowKit Go.Proofs.Qxb6617010a.LogB
set_option linter.unusedVariables false

theorem own : ownKnob Try.prog.godebug = none := by kernel_rfl
theorem laidOut : laidOutB Try.prog = true := by kernel_rfl

/-- The Go text returns true and writes nothing that was there. -/
theorem walk (a : Option Addr) (n cap : Nat) (lt li : Int) (T : Nat → Int) (N : Nat → Bool) (M : Nat → Nat) (B : Nat → Nat → Int) (w : World) (h : LogAt w (.slice a n cap) n T N M B) (hn : n ≤ maxLen) (hM : ∀ i, i < n → M i ≤ maxLen) (h0 : 0 ≤ li) :
    Calls Try.prog 5 #[.slice a n cap, .int .u64 lt, .int .u64 li] w fun e w' => e = .returned (.bool true) ∧ Below w.heap.size w w' := by
  by_cases hz : n = 0
  · by_cases hf : 4096 < li
    · exact Ranks.walk_nil_far a n cap lt li T N M B w h hn hM hz hf
    · obtain ⟨L, rfl⟩ := Int.eq_ofNat_of_zero_le h0
      by_cases hL : L = 0
      · subst hL
        exact Ranks.walk_nil_zero a n cap lt T N M B w h hn hM hz
      · exact Ranks.walk_nil_in a n cap L lt T N M B w h hn hM hz (by omega) (by omega)
  · by_cases hf : 4096 < li
    · exact Ranks.walk_pos_far a n cap lt li T N M B w h hn hM (by omega) hf
    · obtain ⟨L, rfl⟩ := Int.eq_ofNat_of_zero_le h0
      by_cases hL : L = 0
      · subst hL
        exact Ranks.walk_pos_zero a n cap lt T N M B w h hn hM (by omega)
      · exact Ranks.walk_pos_in a n cap L lt T N M B w h hn hM (by omega) (by omega) (by omega)

set_option maxRecDepth 100000 in
theorem lifted (os : Os) (started : os.Started) (H : Type) (enc : TypeId × Value → H) :
    ReturnsInHanded {} Try.checked os 5 .any (Rows.fnCompareLogRanksByLastTermThenLengthSpec.pre6 enc Try.prog Try.f5 Rows.fnCompareLogRanksByLastTermThenLengthRow.domain false) (Rows.fnCompareLogRanksByLastTermThenLengthSpec.post enc Try.prog Try.f5 false true false false) := by
  refine returnsInHanded_of_change (C := Try.checked) own started (by kernel_rfl) Try.func5
    (ChangeSpec.witness6 (enc := enc) (C := Try.checked) false ⟨#[], #[.slice none 0 0, .int .u64 0, .int .u64 0], []⟩ 8 (by kernel_rfl) (by kernel_rfl) (by kernel_rfl) (by kernel_rfl)) ?_
  intro W base args ds gs before hval0 hW hcnd _
  have hval : ∀ (j : Nat) t v, Try.f5.params[j]? = some t → args[j]? = some v → Value.okWide Try.prog W .any base t v := hval0
  have hW' := hW
  obtain ⟨p, q, hA0, hV, rfl, hfz, hnd⟩ := hW
  have hA : DataW.TrodAll enc Try.prog W 0 (fun _ => true) true Try.f5.params.toList args.toList ds p := hA0
  rw [Try.params5] at hA hval
  obtain ⟨v0, vs0, d0, ds0, p0, q0, hargs, rfl, rfl, h0, r0⟩ := trodAll_cons hA
  obtain ⟨v1, vs1, d1, ds1, p1, q1, rfl, rfl, rfl, h1, r1⟩ := trodAll_cons r0
  obtain ⟨v2, vs2, d2, ds2, p2, q2, rfl, rfl, rfl, h2, r2⟩ := trodAll_cons r1
  obtain ⟨rfl, rfl, rfl⟩ := trodAll_nil r2
  obtain rfl : args = #[v0, v1, v2] := by cases args; simp_all
  obtain ⟨rfl, rfl⟩ := trodVars_none hV
  obtain ⟨a0, len0, cap0, rfl⟩ := okWide_slice Try.underlying22 (hval 0 22 v0 rfl rfl)
  have k0 := h0
  have lt0 : ∀ x ∈ p0, x.block < W.heap.size := by obtain ⟨m, hm⟩ := k0; exact DataW.trod_lt m _ _ _ hm
  obtain ⟨hn, T, N, M, B, hlog, hM⟩ := OpenLog.open_log h0
  obtain ⟨a1, rfl, rfl, rfl, w1⟩ := open_int Try.underlying23 (hval 1 23 v1 rfl rfl) h1
  obtain ⟨a2, rfl, rfl, rfl, w2⟩ := open_int Try.underlying23 (hval 2 23 v2 rfl rfl) h2
  clear hA0 hval0
  refine (walk a0 len0 cap0 a1 a2 T N M B W hlog hn hM (bounds_u64 w2).1).mono fun e W' ⟨he, bel⟩ => ?_
  subst he
  exact ⟨_, rfl, _, _, _, [], _, [], hW', trodAll_mk1 (shut_bool Try.underlying4 _), (trodAll_cons_mk (Below.trod laidOut (by kernel_rfl) (of_decide_eq_true (by kernel_rfl)) k0 bel lt0) (trodAll_cons_mk (shut_int Try.underlying23 w1) (trodAll_cons_mk (shut_int Try.underlying23 w2) trodAll_mk0))), rfl, bel.frame _, fun h => by cases h⟩

theorem over : Rows.fnCompareLogRanksByLastTermThenLengthRow.holds Try.pinned (OpenSpec.ofChange Rows.fnCompareLogRanksByLastTermThenLengthSpec) :=
  OpenClaim.holds_of_wide 5 Try.f5 rfl rfl rfl rfl rfl rfl rfl ⟨rfl, rfl, rfl, rfl, rfl⟩ rfl rfl rfl rfl rfl (by kernel_rfl) Try.func5 (by kernel_rfl)
    (of_decide_eq_true (by kernel_rfl)) (by unfold Func.isWrapper; first | (rw [if_pos (by decide +kernel)]; kernel_rfl) | (rw [if_neg (by decide +kernel)]; exact ⟨rfl, rfl⟩))
    (fun os started H enc _ => lifted os started H enc)

/-- The statement. -/
theorem proved : Rows.FnCompareLogRanksByLastTermThenLengthSaid := over
end Go.Proofs.Qxb6617010a.fnCompareLogRanksByLastTermThenLength
