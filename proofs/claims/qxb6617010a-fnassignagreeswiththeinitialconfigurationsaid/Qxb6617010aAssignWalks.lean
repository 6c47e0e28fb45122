import Derived.Test.Qxb6617010aRows
import Derived.WalkKit
import Derived.WalkSpells
import Derived.WalkLawsBesides
import Derived.Deep.QuietTactic
import Derived.Deep.RegionHeld3
import Derived.Deep.DrawnRows
import Derived.BigQuiet
namespace Go.Proofs.Qxb6617010a.AssignW
open Go.RowKit
attribute [local go_sem ↓] Go.wp_at_zero Go.wp_at_succ

/-- The timeout that 'ElectionTimeout' reckons, in int64's wrapping arithmetic. -/
def tout (servers base step p : Int) : Int := wrap64 (base + wrap64 (step * wrap64 (servers - p)))

set_option maxHeartbeats 400000 in
theorem timeout_any (pr sv ba st p x4 x5 x6 : Int) (b : Bool) (w : World) :
    Calls Try.prog 36 #[.agg #[.int .i64 pr, .int .i64 sv, .int .i64 ba, .int .i64 st, .int .i64 x4, .int .i64 x5, .int .i64 x6, .bool b], .int .i64 p] w
      fun e w' => e = .returned (.int .i64 (tout sv ba st p)) ∧ w' = w.alloc (.cells #[.int .i64 pr, .int .i64 sv, .int .i64 ba, .int .i64 st, .int .i64 x4, .int .i64 x5, .int .i64 x6, .bool b] 60) := by
  go_enter Try.func36, Try.ntmps36
  go_wp2
  go_ret
  exact ⟨rfl, rfl⟩

/-- Old cells and old marks behind a call that leaves what was there. -/
theorem bcell {W w1 : World} (hb : Below W.heap.size W w1) : (∀ b o, b < W.heap.size → w1.cell? ⟨b, o, none⟩ = W.cell? ⟨b, o, none⟩) ∧ (∀ b o, b < W.heap.size → w1.frozen? ⟨b, o, none⟩ = W.frozen? ⟨b, o, none⟩) :=
  ⟨fun b o h => hb.cell (p := ⟨b, o, none⟩) h, fun b o h => hb.frozen (p := ⟨b, o, none⟩) h⟩

theorem keep {W w' : World} {a : Addr} {v : Value} (hb : Below W.heap.size W w') (h : W.cell? a = some v) : w'.cell? a = some v :=
  (hb.cell (World.block_lt_of_cell? W a h)).trans h

theorem lay {W : World} {a : Addr} {v : Value} (o : Obj) (h : W.cell? a = some v) : (W.alloc o).cell? a = some v :=
  (World.cell?_alloc_lt W o a (World.block_lt_of_cell? W a h)).trans h

theorem step {w a b : World} (h : Below w.heap.size w a) (k : Below a.heap.size a b) : Below w.heap.size w b := h.trans (k.mono h.size)
theorem stepA {w a : World} (h : Below w.heap.size w a) (o : Obj) : Below w.heap.size w (a.alloc o) := h.alloc h.size o

/-- A node that lies at block b: the cells of its settings. -/
structure Node (b : Nat) (pr sv ba st : Int) (w : World) : Prop where
  lt : b < w.heap.size
  c1 : w.cell? ⟨b, 1, none⟩ = some (.int .i64 pr)
  c2 : w.cell? ⟨b, 2, none⟩ = some (.int .i64 sv)
  c3 : w.cell? ⟨b, 3, none⟩ = some (.int .i64 ba)
  c4 : w.cell? ⟨b, 4, none⟩ = some (.int .i64 st)
  c5 : w.cell? ⟨b, 5, none⟩ = some (.int .i64 0)
  c6 : w.cell? ⟨b, 6, none⟩ = some (.int .i64 0)
  c7 : w.cell? ⟨b, 7, none⟩ = some (.int .i64 0)
  c8 : w.cell? ⟨b, 8, none⟩ = some (.bool false)

theorem Node.below {b : Nat} {pr sv ba st : Int} {w w' : World} (h : Node b pr sv ba st w) (hb : Below w.heap.size w w') : Node b pr sv ba st w' :=
  ⟨Nat.lt_of_lt_of_le h.lt hb.size, (hb.cell (p := ⟨b, 1, none⟩) h.lt).trans h.c1, (hb.cell (p := ⟨b, 2, none⟩) h.lt).trans h.c2, (hb.cell (p := ⟨b, 3, none⟩) h.lt).trans h.c3, (hb.cell (p := ⟨b, 4, none⟩) h.lt).trans h.c4, (hb.cell (p := ⟨b, 5, none⟩) h.lt).trans h.c5, (hb.cell (p := ⟨b, 6, none⟩) h.lt).trans h.c6, (hb.cell (p := ⟨b, 7, none⟩) h.lt).trans h.c7, (hb.cell (p := ⟨b, 8, none⟩) h.lt).trans h.c8⟩

set_option maxHeartbeats 400000 in
theorem new_any (pr sv ba st : Int) (w : World) :
    Calls Try.prog 25 #[.int .i64 pr, .int .i64 sv, .int .i64 ba, .int .i64 st] w
      fun e w' => e = .returned (.pointer (some ⟨w.heap.size, 0, none⟩)) ∧ Node w.heap.size pr sv ba st w' ∧ Below w.heap.size w w' := by
  go_enter Try.func25, Try.ntmps25
  go_wp2
  go_ret
  refine ⟨rfl, ⟨by simp, ?_, ?_, ?_, ?_, ?_, ?_, ?_, ?_⟩, (Below.refl _ _).alloc (Nat.le_refl _) _⟩
  all_goals simp

set_option maxHeartbeats 400000 in
theorem assign_any (b : Nat) (pr sv ba st p t r : Int) (w : World) (hn : Node b pr sv ba st w) :
    Calls Try.prog 31 #[.pointer (some ⟨b, 0, none⟩), .int .i64 p, .agg #[.int .u64 t, .int .u64 r]] w
      fun e w' => e = .returned (.agg #[.int .i64 p, .int .i64 (tout sv ba st p), .int .u64 t, .int .u64 r]) ∧ Below w.heap.size w w' := by
  obtain ⟨hlt, c1, c2, c3, c4, c5, c6, c7, c8⟩ := hn
  have l1 : b < w.heap.size + 1 := by omega
  have l2 : b < w.heap.size + 1 + 1 := by omega
  have l3 : w.heap.size < w.heap.size + 1 + 1 := by omega
  go_enter Try.func31, Try.ntmps31
  go_wp2_with fail
  go_region_held3 (fun w' => w'.cell? ⟨b, 1, none⟩ = some (.int .i64 pr) ∧ w'.cell? ⟨b, 2, none⟩ = some (.int .i64 sv) ∧ w'.cell? ⟨b, 3, none⟩ = some (.int .i64 ba) ∧ w'.cell? ⟨b, 4, none⟩ = some (.int .i64 st) ∧ w'.cell? ⟨b, 5, none⟩ = some (.int .i64 0) ∧ w'.cell? ⟨b, 6, none⟩ = some (.int .i64 0) ∧ w'.cell? ⟨b, 7, none⟩ = some (.int .i64 0) ∧ w'.cell? ⟨b, 8, none⟩ = some (.bool false)
      ∧ w'.cell? ⟨w.heap.size, 0, none⟩ = some (.int .u64 t) ∧ w'.cell? ⟨w.heap.size, 1, none⟩ = some (.int .u64 r)) (simp [*, World.cell?_alloc_past])
    ((go_at_call 36; refine (timeout_any _ _ _ _ _ _ _ _ _ _).mono ?_; rintro e w' ⟨rfl, rfl⟩))
  go_wp2_with fail
  refine bodyPost_ret (v := .agg #[.int .i64 p, .int .i64 (tout sv ba st p), .int .u64 t, .int .u64 r]) (by simp [results, Try.results31, go_sem]) rfl ⟨rfl, ?_⟩
  exact ((((Below.refl _ _).alloc (Nat.le_refl _) _).alloc (by simp) _).alloc (by simp; omega) _).drew

set_option maxHeartbeats 400000 in
theorem zassign_any (b : Nat) (pr sv ba st p t r : Int) (w : World) (hn : Node b pr sv ba st w) :
    Calls Try.prog 26 #[.pointer (some ⟨b, 0, none⟩), .int .i64 p, .agg #[.int .u64 t, .int .u64 r]] w
      fun e w' => e = .returned (.agg #[.int .i64 p, .int .i64 (tout sv ba st p), .int .u64 t, .int .u64 r]) ∧ Below w.heap.size w w' := by
  go_enter Try.func26, Try.ntmps26
  go_wp2_with fail
  refine (assign_any b pr sv ba st p t r _ ?_).mono ?_
  · exact hn.below (((Below.refl _ _).alloc (Nat.le_refl _) _).alloc (by simp) _)
  rintro e w1 ⟨rfl, hb⟩
  obtain ⟨hc, hf⟩ := bcell hb
  have hz : w.heap.size + 1 < w1.heap.size := by have := hb.size; simp at this; omega
  go_wp2_with fail
  refine bodyPost_ret (v := .agg #[.int .i64 p, .int .i64 (tout sv ba st p), .int .u64 t, .int .u64 r]) (by simp [results, Try.results26, go_sem, hc]) rfl ⟨rfl, ?_⟩
  exact (((((((Below.refl _ _).alloc (Nat.le_refl _) _).alloc (by simp) _).trans (hb.mono (by simp; omega))).setCell (by simp) _).setCell (by simp) _).setCell (by simp) _).setCell (by simp) _

/-- A server's initial configuration under Raft: the zero one. -/
theorem initial_raft (sv ba st p x4 x5 x6 : Int) (b : Bool) (w : World) :
    Calls Try.prog 32 #[.agg #[.int .i64 2, .int .i64 sv, .int .i64 ba, .int .i64 st, .int .i64 x4, .int .i64 x5, .int .i64 x6, .bool b], .int .i64 p] w
      fun e w' => e = .returned (.agg #[.int .i64 0, .int .i64 0, .int .u64 0, .int .u64 0]) ∧ Below w.heap.size w w' := by
  go_enter Try.func32, Try.ntmps32
  go_wp2_with fail
  refine bodyPost_ret (v := .agg #[.int .i64 0, .int .i64 0, .int .u64 0, .int .u64 0]) (by simp [results, Try.results32, go_sem]) rfl ⟨rfl, ?_⟩
  exact ((Below.refl _ _).alloc (Nat.le_refl _) _).alloc (by simp) _

/-- ... and under any other protocol: the ranked one. -/
theorem initial_ranked (pr sv ba st p x4 x5 x6 : Int) (b : Bool) (w : World) (hp : (pr == 2) = false) :
    Calls Try.prog 32 #[.agg #[.int .i64 pr, .int .i64 sv, .int .i64 ba, .int .i64 st, .int .i64 x4, .int .i64 x5, .int .i64 x6, .bool b], .int .i64 p] w
      fun e w' => e = .returned (.agg #[.int .i64 p, .int .i64 (tout sv ba st p), .int .u64 0, .int .u64 0]) ∧ Below w.heap.size w w' := by
  go_enter Try.func32, Try.ntmps32
  go_wp2_with fail
  refine (timeout_any _ _ _ _ _ _ _ _ _ _).mono ?_
  rintro e w1 ⟨rfl, rfl⟩
  go_wp2_with fail
  refine bodyPost_ret (v := .agg #[.int .i64 p, .int .i64 (tout sv ba st p), .int .u64 0, .int .u64 0]) (by simp [results, Try.results32, go_sem]) rfl ⟨rfl, ?_⟩
  exact (((Below.refl _ _).alloc (Nat.le_refl _) _).alloc (by simp) _).alloc (by simp; omega) _

/-- The initial configuration as a list of cells. -/
theorem zinitial_raft (b : Nat) (sv ba st p : Int) (w : World) (hn : Node b 2 sv ba st w) :
    Calls Try.prog 27 #[.pointer (some ⟨b, 0, none⟩), .int .i64 p] w
      fun e w' => e = .returned (.agg #[.int .i64 0, .int .i64 0, .int .u64 0, .int .u64 0]) ∧ Below w.heap.size w w' := by
  obtain ⟨hlt, c1, c2, c3, c4, c5, c6, c7, c8⟩ := hn
  go_enter Try.func27, Try.ntmps27
  go_wp2_with fail
  refine (initial_raft _ _ _ _ _ _ _ _ _).mono ?_
  rintro e w1 ⟨rfl, hb⟩
  obtain ⟨hc, hf⟩ := bcell hb
  have hz : w.heap.size < w1.heap.size := by have := hb.size; simp at this; omega
  go_wp2_with fail
  refine bodyPost_ret (v := .agg #[.int .i64 0, .int .i64 0, .int .u64 0, .int .u64 0]) (by simp [results, Try.results27, go_sem, hc]) rfl ⟨rfl, ?_⟩
  exact ((((((Below.refl _ _).alloc (Nat.le_refl _) _).trans (hb.mono (by simp))).setCell (by simp) _).setCell (by simp) _).setCell (by simp) _).setCell (by simp) _

theorem zinitial_ranked (b : Nat) (pr sv ba st p : Int) (w : World) (hp : (pr == 2) = false) (hn : Node b pr sv ba st w) :
    Calls Try.prog 27 #[.pointer (some ⟨b, 0, none⟩), .int .i64 p] w
      fun e w' => e = .returned (.agg #[.int .i64 p, .int .i64 (tout sv ba st p), .int .u64 0, .int .u64 0]) ∧ Below w.heap.size w w' := by
  obtain ⟨hlt, c1, c2, c3, c4, c5, c6, c7, c8⟩ := hn
  go_enter Try.func27, Try.ntmps27
  go_wp2_with fail
  refine (initial_ranked _ _ _ _ _ _ _ _ _ _ hp).mono ?_
  rintro e w1 ⟨rfl, hb⟩
  obtain ⟨hc, hf⟩ := bcell hb
  have hz : w.heap.size < w1.heap.size := by have := hb.size; simp at this; omega
  go_wp2_with fail
  refine bodyPost_ret (v := .agg #[.int .i64 p, .int .i64 (tout sv ba st p), .int .u64 0, .int .u64 0]) (by simp [results, Try.results27, go_sem, hc]) rfl ⟨rfl, ?_⟩
  exact ((((((Below.refl _ _).alloc (Nat.le_refl _) _).trans (hb.mono (by simp))).setCell (by simp) _).setCell (by simp) _).setCell (by simp) _).setCell (by simp) _

end Go.Proofs.Qxb6617010a.AssignW
