/-
  The proof of 'Rows.FnAssignAgreesWithTheInitialConfigurationSaid'. The frame is the given shell's; the walk ends in 'Below'.
-/
import Derived.Test.Qxb6617010aRows
import Derived.WalkKit
import Derived.ProofKit
import Derived.OpenShut
import Derived.ShutString
import Derived.ChangeOld
import Derived.Below
import Derived.Test.Qxb6617010aAssignWalks
namespace Go.Proofs.Qxb6617010a.fnAssignAgreesWithTheInitialConfiguration
open Go.ChangeShapes Go.WideShapes Go.ChangeAt Go.RowKit
open Go.ChangeMaps (open_string shut_string)
set_option linter.unusedVariables false      -- a walk need not use every 'w<i>' (that an integer argument fits its kind)

theorem own : ownKnob Try.prog.godebug = none := by kernel_rfl

/-! ### STEP 1: THE WALK: the Go text returns true, and writes nothing that was there. -/
attribute [local go_sem ↓] Go.wp_at_zero Go.wp_at_succ

/-- Outside the law's own bounds the law returns true at once. -/
theorem walk_out (a0 a1 a2 a3 a4 a5 a6 : Int) (w : World) (h : a1 < 1 ∨ 1073741824 < a1 ∨ a4 < 1 ∨ a1 < a4) :
    Calls Try.prog 8 #[.int .i64 a0, .int .i64 a1, .int .i64 a2, .int .i64 a3, .int .i64 a4, .int .u64 a5, .int .u64 a6] w fun e w' => e = .returned (.bool true) ∧ Below w.heap.size w w' := by
  by_cases h1 : a1 < 1
  · go_enter Try.func8, Try.ntmps8
    go_wp2_with fail
    go_ret
    exact ⟨rfl, Below.refl _ _⟩
  · by_cases h2 : 1073741824 < a1
    · go_enter Try.func8, Try.ntmps8
      go_wp2_with fail
      go_ret
      exact ⟨rfl, Below.refl _ _⟩
    · by_cases h3 : a4 < 1
      · go_enter Try.func8, Try.ntmps8
        go_wp2_with fail
        go_ret
        exact ⟨rfl, Below.refl _ _⟩
      · have h4 : a1 < a4 := by omega
        go_enter Try.func8, Try.ntmps8
        go_wp2_with fail
        go_ret
        exact ⟨rfl, Below.refl _ _⟩

set_option maxHeartbeats 1000000 in
theorem walk_raft (a1 a2 a3 a4 a5 a6 : Int) (w : World) (h1 : 1 ≤ a1) (h2 : a1 ≤ 1073741824) (h3 : 1 ≤ a4) (h4 : a4 ≤ a1) :
    Calls Try.prog 8 #[.int .i64 2, .int .i64 a1, .int .i64 a2, .int .i64 a3, .int .i64 a4, .int .u64 a5, .int .u64 a6] w fun e w' => e = .returned (.bool true) ∧ Below w.heap.size w w' := by
  go_enter Try.func8, Try.ntmps8
  go_wp2_with fail
  refine (AssignW.new_any _ _ _ _ _).mono ?_
  rintro e w1 ⟨rfl, hn1, hb1⟩
  go_wp2_with fail
  refine (AssignW.new_any _ _ _ _ _).mono ?_
  rintro e w2 ⟨rfl, hn2, hb2⟩
  have m1 := hn1.below hb2
  have m2 := hn2
  clear hn1 hn2
  go_wp2_with fail
  refine (AssignW.zassign_any w.heap.size 2 a1 a2 a3 a4 a5 a6 _ (m1.below ((Below.refl _ _).alloc (Nat.le_refl _) _))).mono ?_
  rintro e w3 ⟨rfl, hb3⟩
  have m1 := (m1.below ((Below.refl _ _).alloc (Nat.le_refl _) (Obj.cells #[Value.int IntKind.u64 a5, Value.int IntKind.u64 a6] 49))).below hb3
  have m2 := (m2.below ((Below.refl _ _).alloc (Nat.le_refl _) (Obj.cells #[Value.int IntKind.u64 a5, Value.int IntKind.u64 a6] 49))).below hb3
  have k0 := AssignW.keep (a := ⟨w2.heap.size, 0, none⟩) (v := .int .u64 a5) hb3 (by simp)
  have k1 := AssignW.keep (a := ⟨w2.heap.size, 1, none⟩) (v := .int .u64 a6) hb3 (by simp)
  go_wp2_with fail
  refine (AssignW.zinitial_ranked w1.heap.size 0 a1 a2 a3 a4 _ rfl (m2.below ((Below.refl _ _).alloc (Nat.le_refl _) _))).mono ?_
  rintro e w4 ⟨rfl, hb4⟩
  have m1 := (m1.below ((Below.refl _ _).alloc (Nat.le_refl _) (Obj.cells #[Value.int IntKind.i64 a4, Value.int IntKind.i64 (AssignW.tout a1 a2 a3 a4), Value.int IntKind.u64 a5, Value.int IntKind.u64 a6] 52))).below hb4
  have k0 := AssignW.keep hb4 (AssignW.lay _ k0)
  have k1 := AssignW.keep hb4 (AssignW.lay _ k1)
  have g0 := AssignW.keep (a := ⟨w3.heap.size, 0, none⟩) (v := .int .i64 a4) hb4 (by simp)
  have g1 := AssignW.keep (a := ⟨w3.heap.size, 1, none⟩) (v := .int .i64 (AssignW.tout a1 a2 a3 a4)) hb4 (by simp)
  have g2 := AssignW.keep (a := ⟨w3.heap.size, 2, none⟩) (v := .int .u64 a5) hb4 (by simp)
  have g3 := AssignW.keep (a := ⟨w3.heap.size, 3, none⟩) (v := .int .u64 a6) hb4 (by simp)
  clear m2
  go_wp2_with fail
  refine (AssignW.zinitial_raft w.heap.size a1 a2 a3 a4 _ (m1.below ((Below.refl _ _).alloc (Nat.le_refl _) _))).mono ?_
  rintro e w5 ⟨rfl, hb5⟩
  have m1 := (m1.below ((Below.refl _ _).alloc (Nat.le_refl _) (Obj.cells #[Value.int IntKind.i64 a4, Value.int IntKind.i64 (AssignW.tout a1 a2 a3 a4), Value.int IntKind.u64 0, Value.int IntKind.u64 0] 52))).below hb5
  have k0 := AssignW.keep hb5 (AssignW.lay _ k0)
  have k1 := AssignW.keep hb5 (AssignW.lay _ k1)
  have g0 := AssignW.keep hb5 (AssignW.lay _ g0)
  have g1 := AssignW.keep hb5 (AssignW.lay _ g1)
  have g2 := AssignW.keep hb5 (AssignW.lay _ g2)
  have g3 := AssignW.keep hb5 (AssignW.lay _ g3)
  have s0 := AssignW.keep (a := ⟨w4.heap.size, 0, none⟩) (v := .int .i64 a4) hb5 (by simp)
  have s1 := AssignW.keep (a := ⟨w4.heap.size, 1, none⟩) (v := .int .i64 (AssignW.tout a1 a2 a3 a4)) hb5 (by simp)
  have s2 := AssignW.keep (a := ⟨w4.heap.size, 2, none⟩) (v := .int .u64 0) hb5 (by simp)
  have s3 := AssignW.keep (a := ⟨w4.heap.size, 3, none⟩) (v := .int .u64 0) hb5 (by simp)
  have z2 : w2.heap.size < w5.heap.size := World.block_lt_of_cell? _ _ k0
  have z3 : w3.heap.size < w5.heap.size := World.block_lt_of_cell? _ _ g0
  have z4 : w4.heap.size < w5.heap.size := World.block_lt_of_cell? _ _ s0
  go_wp2_with fail
  have nd := (m1.below ((Below.refl _ _).alloc (Nat.le_refl _) (Obj.cells #[Value.int IntKind.i64 0, Value.int IntKind.i64 0, Value.int IntKind.u64 0, Value.int IntKind.u64 0] 52))).below (Below.refl _ _).drew
  have t0 : (w5.alloc (Obj.cells #[Value.int IntKind.i64 0, Value.int IntKind.i64 0, Value.int IntKind.u64 0, Value.int IntKind.u64 0] 52)).drew.cell? ⟨w4.heap.size, 0, none⟩ = some (.int .i64 a4) := AssignW.lay _ s0
  have t1 : (w5.alloc (Obj.cells #[Value.int IntKind.i64 0, Value.int IntKind.i64 0, Value.int IntKind.u64 0, Value.int IntKind.u64 0] 52)).drew.cell? ⟨w4.heap.size, 1, none⟩ = some (.int .i64 (AssignW.tout a1 a2 a3 a4)) := AssignW.lay _ s1
  have t2 : (w5.alloc (Obj.cells #[Value.int IntKind.i64 0, Value.int IntKind.i64 0, Value.int IntKind.u64 0, Value.int IntKind.u64 0] 52)).drew.cell? ⟨w4.heap.size, 2, none⟩ = some (.int .u64 0) := AssignW.lay _ s2
  have t3 : (w5.alloc (Obj.cells #[Value.int IntKind.i64 0, Value.int IntKind.i64 0, Value.int IntKind.u64 0, Value.int IntKind.u64 0] 52)).drew.cell? ⟨w4.heap.size, 3, none⟩ = some (.int .u64 0) := AssignW.lay _ s3
  have u0 : (w5.alloc (Obj.cells #[Value.int IntKind.i64 0, Value.int IntKind.i64 0, Value.int IntKind.u64 0, Value.int IntKind.u64 0] 52)).drew.cell? ⟨w5.heap.size, 0, none⟩ = some (.int .i64 0) := by simp
  have u1 : (w5.alloc (Obj.cells #[Value.int IntKind.i64 0, Value.int IntKind.i64 0, Value.int IntKind.u64 0, Value.int IntKind.u64 0] 52)).drew.cell? ⟨w5.heap.size, 1, none⟩ = some (.int .i64 0) := by simp
  have u2 : (w5.alloc (Obj.cells #[Value.int IntKind.i64 0, Value.int IntKind.i64 0, Value.int IntKind.u64 0, Value.int IntKind.u64 0] 52)).drew.cell? ⟨w5.heap.size, 2, none⟩ = some (.int .u64 0) := by simp
  have u3 : (w5.alloc (Obj.cells #[Value.int IntKind.i64 0, Value.int IntKind.i64 0, Value.int IntKind.u64 0, Value.int IntKind.u64 0] 52)).drew.cell? ⟨w5.heap.size, 3, none⟩ = some (.int .u64 0) := by simp
  go_region_held3 (fun w' => w'.cell? ⟨w4.heap.size, 0, none⟩ = some (.int .i64 a4) ∧ w'.cell? ⟨w4.heap.size, 1, none⟩ = some (.int .i64 (AssignW.tout a1 a2 a3 a4)) ∧ w'.cell? ⟨w4.heap.size, 2, none⟩ = some (.int .u64 0) ∧ w'.cell? ⟨w4.heap.size, 3, none⟩ = some (.int .u64 0)
      ∧ w'.cell? ⟨w5.heap.size, 0, none⟩ = some (.int .i64 0) ∧ w'.cell? ⟨w5.heap.size, 1, none⟩ = some (.int .i64 0) ∧ w'.cell? ⟨w5.heap.size, 2, none⟩ = some (.int .u64 0) ∧ w'.cell? ⟨w5.heap.size, 3, none⟩ = some (.int .u64 0))
    (first | exact ⟨AssignW.keep hb6 t0, AssignW.keep hb6 t1, AssignW.keep hb6 t2, AssignW.keep hb6 t3, AssignW.keep hb6 u0, AssignW.keep hb6 u1, AssignW.keep hb6 u2, AssignW.keep hb6 u3⟩ | exact ⟨t0, t1, t2, t3, u0, u1, u2, u3⟩)
    ((go_at_call 26; refine (AssignW.zassign_any w.heap.size 2 a1 a2 a3 a4 0 0 _ nd).mono ?_; rintro e w6 ⟨rfl, hb6⟩))
  go_wp2_with fail
  go_ret
  exact ⟨rfl, AssignW.step (AssignW.stepA (AssignW.step (AssignW.stepA (AssignW.step (AssignW.stepA (AssignW.step (AssignW.stepA (AssignW.step hb1 hb2) _) hb3) _) hb4) _) hb5) _).drew hb6⟩

set_option maxHeartbeats 1000000 in
theorem walk_ranked (a0 a1 a2 a3 a4 a5 a6 : Int) (w : World) (hp : (a0 == 2) = false) (h1 : 1 ≤ a1) (h2 : a1 ≤ 1073741824) (h3 : 1 ≤ a4) (h4 : a4 ≤ a1) :
    Calls Try.prog 8 #[.int .i64 a0, .int .i64 a1, .int .i64 a2, .int .i64 a3, .int .i64 a4, .int .u64 a5, .int .u64 a6] w fun e w' => e = .returned (.bool true) ∧ Below w.heap.size w w' := by
  go_enter Try.func8, Try.ntmps8
  go_wp2_with fail
  refine (AssignW.new_any _ _ _ _ _).mono ?_
  rintro e w1 ⟨rfl, hn1, hb1⟩
  go_wp2_with fail
  refine (AssignW.new_any _ _ _ _ _).mono ?_
  rintro e w2 ⟨rfl, hn2, hb2⟩
  have m1 := hn1.below hb2
  have m2 := hn2
  clear hn1 hn2
  go_wp2_with fail
  refine (AssignW.zassign_any w.heap.size a0 a1 a2 a3 a4 a5 a6 _ (m1.below ((Below.refl _ _).alloc (Nat.le_refl _) _))).mono ?_
  rintro e w3 ⟨rfl, hb3⟩
  have m1 := (m1.below ((Below.refl _ _).alloc (Nat.le_refl _) (Obj.cells #[Value.int IntKind.u64 a5, Value.int IntKind.u64 a6] 49))).below hb3
  have m2 := (m2.below ((Below.refl _ _).alloc (Nat.le_refl _) (Obj.cells #[Value.int IntKind.u64 a5, Value.int IntKind.u64 a6] 49))).below hb3
  have k0 := AssignW.keep (a := ⟨w2.heap.size, 0, none⟩) (v := .int .u64 a5) hb3 (by simp)
  have k1 := AssignW.keep (a := ⟨w2.heap.size, 1, none⟩) (v := .int .u64 a6) hb3 (by simp)
  go_wp2_with fail
  refine (AssignW.zinitial_ranked w1.heap.size 0 a1 a2 a3 a4 _ rfl (m2.below ((Below.refl _ _).alloc (Nat.le_refl _) _))).mono ?_
  rintro e w4 ⟨rfl, hb4⟩
  have m1 := (m1.below ((Below.refl _ _).alloc (Nat.le_refl _) (Obj.cells #[Value.int IntKind.i64 a4, Value.int IntKind.i64 (AssignW.tout a1 a2 a3 a4), Value.int IntKind.u64 a5, Value.int IntKind.u64 a6] 52))).below hb4
  have k0 := AssignW.keep hb4 (AssignW.lay _ k0)
  have k1 := AssignW.keep hb4 (AssignW.lay _ k1)
  have g0 := AssignW.keep (a := ⟨w3.heap.size, 0, none⟩) (v := .int .i64 a4) hb4 (by simp)
  have g1 := AssignW.keep (a := ⟨w3.heap.size, 1, none⟩) (v := .int .i64 (AssignW.tout a1 a2 a3 a4)) hb4 (by simp)
  have g2 := AssignW.keep (a := ⟨w3.heap.size, 2, none⟩) (v := .int .u64 a5) hb4 (by simp)
  have g3 := AssignW.keep (a := ⟨w3.heap.size, 3, none⟩) (v := .int .u64 a6) hb4 (by simp)
  clear m2
  go_wp2_with fail
  refine (AssignW.zinitial_ranked w.heap.size a0 a1 a2 a3 a4 _ hp (m1.below ((Below.refl _ _).alloc (Nat.le_refl _) _))).mono ?_
  rintro e w5 ⟨rfl, hb5⟩
  have m1 := (m1.below ((Below.refl _ _).alloc (Nat.le_refl _) (Obj.cells #[Value.int IntKind.i64 a4, Value.int IntKind.i64 (AssignW.tout a1 a2 a3 a4), Value.int IntKind.u64 0, Value.int IntKind.u64 0] 52))).below hb5
  have k0 := AssignW.keep hb5 (AssignW.lay _ k0)
  have k1 := AssignW.keep hb5 (AssignW.lay _ k1)
  have g0 := AssignW.keep hb5 (AssignW.lay _ g0)
  have g1 := AssignW.keep hb5 (AssignW.lay _ g1)
  have g2 := AssignW.keep hb5 (AssignW.lay _ g2)
  have g3 := AssignW.keep hb5 (AssignW.lay _ g3)
  have s0 := AssignW.keep (a := ⟨w4.heap.size, 0, none⟩) (v := .int .i64 a4) hb5 (by simp)
  have s1 := AssignW.keep (a := ⟨w4.heap.size, 1, none⟩) (v := .int .i64 (AssignW.tout a1 a2 a3 a4)) hb5 (by simp)
  have s2 := AssignW.keep (a := ⟨w4.heap.size, 2, none⟩) (v := .int .u64 0) hb5 (by simp)
  have s3 := AssignW.keep (a := ⟨w4.heap.size, 3, none⟩) (v := .int .u64 0) hb5 (by simp)
  have z2 : w2.heap.size < w5.heap.size := World.block_lt_of_cell? _ _ k0
  have z3 : w3.heap.size < w5.heap.size := World.block_lt_of_cell? _ _ g0
  have z4 : w4.heap.size < w5.heap.size := World.block_lt_of_cell? _ _ s0
  go_wp2_with fail
  have nd := (m1.below ((Below.refl _ _).alloc (Nat.le_refl _) (Obj.cells #[Value.int IntKind.i64 a4, Value.int IntKind.i64 (AssignW.tout a1 a2 a3 a4), Value.int IntKind.u64 0, Value.int IntKind.u64 0] 52))).below (Below.refl _ _).drew
  have t0 : (w5.alloc (Obj.cells #[Value.int IntKind.i64 a4, Value.int IntKind.i64 (AssignW.tout a1 a2 a3 a4), Value.int IntKind.u64 0, Value.int IntKind.u64 0] 52)).drew.cell? ⟨w4.heap.size, 0, none⟩ = some (.int .i64 a4) := AssignW.lay _ s0
  have t1 : (w5.alloc (Obj.cells #[Value.int IntKind.i64 a4, Value.int IntKind.i64 (AssignW.tout a1 a2 a3 a4), Value.int IntKind.u64 0, Value.int IntKind.u64 0] 52)).drew.cell? ⟨w4.heap.size, 1, none⟩ = some (.int .i64 (AssignW.tout a1 a2 a3 a4)) := AssignW.lay _ s1
  have t2 : (w5.alloc (Obj.cells #[Value.int IntKind.i64 a4, Value.int IntKind.i64 (AssignW.tout a1 a2 a3 a4), Value.int IntKind.u64 0, Value.int IntKind.u64 0] 52)).drew.cell? ⟨w4.heap.size, 2, none⟩ = some (.int .u64 0) := AssignW.lay _ s2
  have t3 : (w5.alloc (Obj.cells #[Value.int IntKind.i64 a4, Value.int IntKind.i64 (AssignW.tout a1 a2 a3 a4), Value.int IntKind.u64 0, Value.int IntKind.u64 0] 52)).drew.cell? ⟨w4.heap.size, 3, none⟩ = some (.int .u64 0) := AssignW.lay _ s3
  have u0 : (w5.alloc (Obj.cells #[Value.int IntKind.i64 a4, Value.int IntKind.i64 (AssignW.tout a1 a2 a3 a4), Value.int IntKind.u64 0, Value.int IntKind.u64 0] 52)).drew.cell? ⟨w5.heap.size, 0, none⟩ = some (.int .i64 a4) := by simp
  have u1 : (w5.alloc (Obj.cells #[Value.int IntKind.i64 a4, Value.int IntKind.i64 (AssignW.tout a1 a2 a3 a4), Value.int IntKind.u64 0, Value.int IntKind.u64 0] 52)).drew.cell? ⟨w5.heap.size, 1, none⟩ = some (.int .i64 (AssignW.tout a1 a2 a3 a4)) := by simp
  have u2 : (w5.alloc (Obj.cells #[Value.int IntKind.i64 a4, Value.int IntKind.i64 (AssignW.tout a1 a2 a3 a4), Value.int IntKind.u64 0, Value.int IntKind.u64 0] 52)).drew.cell? ⟨w5.heap.size, 2, none⟩ = some (.int .u64 0) := by simp
  have u3 : (w5.alloc (Obj.cells #[Value.int IntKind.i64 a4, Value.int IntKind.i64 (AssignW.tout a1 a2 a3 a4), Value.int IntKind.u64 0, Value.int IntKind.u64 0] 52)).drew.cell? ⟨w5.heap.size, 3, none⟩ = some (.int .u64 0) := by simp
  go_region_held3 (fun w' => w'.cell? ⟨w4.heap.size, 0, none⟩ = some (.int .i64 a4) ∧ w'.cell? ⟨w4.heap.size, 1, none⟩ = some (.int .i64 (AssignW.tout a1 a2 a3 a4)) ∧ w'.cell? ⟨w4.heap.size, 2, none⟩ = some (.int .u64 0) ∧ w'.cell? ⟨w4.heap.size, 3, none⟩ = some (.int .u64 0)
      ∧ w'.cell? ⟨w5.heap.size, 0, none⟩ = some (.int .i64 a4) ∧ w'.cell? ⟨w5.heap.size, 1, none⟩ = some (.int .i64 (AssignW.tout a1 a2 a3 a4)) ∧ w'.cell? ⟨w5.heap.size, 2, none⟩ = some (.int .u64 0) ∧ w'.cell? ⟨w5.heap.size, 3, none⟩ = some (.int .u64 0))
    (first | exact ⟨AssignW.keep hb6 t0, AssignW.keep hb6 t1, AssignW.keep hb6 t2, AssignW.keep hb6 t3, AssignW.keep hb6 u0, AssignW.keep hb6 u1, AssignW.keep hb6 u2, AssignW.keep hb6 u3⟩ | exact ⟨t0, t1, t2, t3, u0, u1, u2, u3⟩)
    ((go_at_call 26; refine (AssignW.zassign_any w.heap.size a0 a1 a2 a3 a4 0 0 _ nd).mono ?_; rintro e w6 ⟨rfl, hb6⟩))
  go_wp2_with fail
  go_ret
  exact ⟨rfl, AssignW.step (AssignW.stepA (AssignW.step (AssignW.stepA (AssignW.step (AssignW.stepA (AssignW.step (AssignW.stepA (AssignW.step hb1 hb2) _) hb3) _) hb4) _) hb5) _).drew hb6⟩

theorem walk (a0 a1 a2 a3 a4 a5 a6 : Int) (w : World) :
    Calls Try.prog 8 #[.int .i64 a0, .int .i64 a1, .int .i64 a2, .int .i64 a3, .int .i64 a4, .int .u64 a5, .int .u64 a6] w fun e w' => e = .returned (.bool true) ∧ Below w.heap.size w w' := by
  by_cases h : a1 < 1 ∨ 1073741824 < a1 ∨ a4 < 1 ∨ a1 < a4
  · exact walk_out a0 a1 a2 a3 a4 a5 a6 w h
  · by_cases hp : a0 = 2
    · subst hp
      exact walk_raft a1 a2 a3 a4 a5 a6 w (by omega) (by omega) (by omega) (by omega)
    · exact walk_ranked a0 a1 a2 a3 a4 a5 a6 w (beq_eq_false_iff_ne.2 hp) (by omega) (by omega) (by omega) (by omega)

/-! ### THE ROW's STEP: WRITTEN OUT: LEAVE IT -/
set_option maxRecDepth 100000 in
theorem lifted (os : Os) (started : os.Started) (H : Type) (enc : TypeId × Value → H) :
    ReturnsInHanded {} Try.checked os 8 .any (Rows.fnAssignAgreesWithTheInitialConfigurationSpec.pre6 enc Try.prog Try.f8 Rows.fnAssignAgreesWithTheInitialConfigurationRow.domain false) (Rows.fnAssignAgreesWithTheInitialConfigurationSpec.post enc Try.prog Try.f8 false true false false) := by
  refine returnsInHanded_of_change (C := Try.checked) own started (by kernel_rfl) Try.func8
    (ChangeSpec.witness6 (enc := enc) (C := Try.checked) false ⟨#[], #[.int .i64 0, .int .i64 0, .int .i64 0, .int .i64 0, .int .i64 0, .int .u64 0, .int .u64 0], []⟩ 8 (by kernel_rfl) (by kernel_rfl) (by kernel_rfl) (by kernel_rfl)) ?_
  intro W base args ds gs before hval0 hW hcnd _
  have hval : ∀ (j : Nat) t v, Try.f8.params[j]? = some t → args[j]? = some v → Value.okWide Try.prog W .any base t v := hval0
  have hW' := hW
  obtain ⟨p, q, hA0, hV, rfl, hfz, hnd⟩ := hW
  have hA : DataW.TrodAll enc Try.prog W 0 (fun _ => true) true Try.f8.params.toList args.toList ds p := hA0
  rw [Try.params8] at hA hval
  obtain ⟨v0, vs0, d0, ds0, p0, q0, hargs, rfl, rfl, h0, r0⟩ := trodAll_cons hA
  obtain ⟨v1, vs1, d1, ds1, p1, q1, rfl, rfl, rfl, h1, r1⟩ := trodAll_cons r0
  obtain ⟨v2, vs2, d2, ds2, p2, q2, rfl, rfl, rfl, h2, r2⟩ := trodAll_cons r1
  obtain ⟨v3, vs3, d3, ds3, p3, q3, rfl, rfl, rfl, h3, r3⟩ := trodAll_cons r2
  obtain ⟨v4, vs4, d4, ds4, p4, q4, rfl, rfl, rfl, h4, r4⟩ := trodAll_cons r3
  obtain ⟨v5, vs5, d5, ds5, p5, q5, rfl, rfl, rfl, h5, r5⟩ := trodAll_cons r4
  obtain ⟨v6, vs6, d6, ds6, p6, q6, rfl, rfl, rfl, h6, r6⟩ := trodAll_cons r5
  obtain ⟨rfl, rfl, rfl⟩ := trodAll_nil r6
  obtain rfl : args = #[v0, v1, v2, v3, v4, v5, v6] := by cases args; simp_all
  obtain ⟨rfl, rfl⟩ := trodVars_none hV
  obtain ⟨a0, rfl, rfl, rfl, w0⟩ := open_int Try.underlying3 (hval 0 3 v0 rfl rfl) h0
  obtain ⟨a1, rfl, rfl, rfl, w1⟩ := open_int Try.underlying3 (hval 1 3 v1 rfl rfl) h1
  obtain ⟨a2, rfl, rfl, rfl, w2⟩ := open_int Try.underlying2 (hval 2 2 v2 rfl rfl) h2
  obtain ⟨a3, rfl, rfl, rfl, w3⟩ := open_int Try.underlying2 (hval 3 2 v3 rfl rfl) h3
  obtain ⟨a4, rfl, rfl, rfl, w4⟩ := open_int Try.underlying3 (hval 4 3 v4 rfl rfl) h4
  obtain ⟨a5, rfl, rfl, rfl, w5⟩ := open_int Try.underlying23 (hval 5 23 v5 rfl rfl) h5
  obtain ⟨a6, rfl, rfl, rfl, w6⟩ := open_int Try.underlying23 (hval 6 23 v6 rfl rfl) h6
  clear hA0 hval0
  refine (walk a0 a1 a2 a3 a4 a5 a6 W).mono fun e W' ⟨he, bel⟩ => ?_
  subst he
  exact ⟨_, rfl, _, _, _, [], _, [], hW', trodAll_mk1 (shut_bool Try.underlying4 _), (trodAll_cons_mk (shut_int Try.underlying3 w0) (trodAll_cons_mk (shut_int Try.underlying3 w1) (trodAll_cons_mk (shut_int Try.underlying2 w2) (trodAll_cons_mk (shut_int Try.underlying2 w3) (trodAll_cons_mk (shut_int Try.underlying3 w4) (trodAll_cons_mk (shut_int Try.underlying23 w5) (trodAll_cons_mk (shut_int Try.underlying23 w6) trodAll_mk0))))))), rfl, bel.frame _, fun h => by cases h⟩

theorem over : Rows.fnAssignAgreesWithTheInitialConfigurationRow.holds Try.pinned (OpenSpec.ofChange Rows.fnAssignAgreesWithTheInitialConfigurationSpec) :=
  OpenClaim.holds_of_wide 8 Try.f8 rfl rfl rfl rfl rfl rfl rfl ⟨rfl, rfl, rfl, rfl, rfl⟩ rfl rfl rfl rfl rfl (by kernel_rfl) Try.func8 (by kernel_rfl)
    (of_decide_eq_true (by kernel_rfl)) (by unfold Func.isWrapper; first | (rw [if_pos (by decide +kernel)]; kernel_rfl) | (rw [if_neg (by decide +kernel)]; exact ⟨rfl, rfl⟩))
    (fun os started H enc _ => lifted os started H enc)

/-- ████ THE STATEMENT ████ -/
theorem proved : Rows.FnAssignAgreesWithTheInitialConfigurationSaid :=
  over
end Go.Proofs.Qxb6617010a.fnAssignAgreesWithTheInitialConfiguration
