/-
  'zzc := make([]byte, len(b)); copy(zzc, b)': the copy's run, as one equation for the walk; and the size guards.
-/
import Derived.Test.Qxb6617825aRead
import Derived.Deep.OwnRows
import Derived.Laws.CopyOwn
namespace Go.Proofs.Qxb6617825a.CopyW
open Go.RowKit Go.Deep Go.Proofs.Qxb6617825a.Plain Go.Proofs.Qxb6617825a.ReadW

theorem info5 : (Try.prog.info? 5).map (fun i => (i.zero, i.size, i.bytes)) = some (some (.int .u8 0), 1, 1) := by kernel_rfl
theorem size5 : (Try.prog.info? 5).map (·.size) = some 1 := by kernel_rfl

theorem add_plain (b off i : Nat) : (⟨b, off, none⟩ : Addr).add i = ⟨b, off + i, none⟩ := by
  unfold Addr.add
  split <;> simp_all

/-- The copy's run behind the make. -/
theorem copy_run (x : Addr) (m cap : Nat) (B : Nat → Int) (w : World) (h : BytesAt w (.slice (some x) m cap) m B) :
    ∃ u W1, (∀ ty, (Builtin.copy_ #[22, 22] ty #[.slice (some ⟨w.heap.size, 0, none⟩) m m, .slice (some x) m cap]).run Try.prog (w.alloc (.cells (madeCells #[.int .u8 0] m) 5)) = .ok u W1) ∧
      BytesAt W1 (.slice (some ⟨w.heap.size, 0, none⟩) m m) m B ∧ Below w.heap.size w W1 := by
  have hb0 : Below w.heap.size w (w.alloc (.cells (madeCells #[.int .u8 0] m) 5)) := (Below.refl _ _).alloc (Nat.le_refl _) _
  have hsrc : ∀ j v, ((List.range m).map fun j => Value.int .u8 (B j))[j]? = some v → (w.alloc (.cells (madeCells #[.int .u8 0] m) 5)).cell? (x.add j) = some v := by
    intro j v hv
    obtain ⟨a', cap', hv', _, h⟩ := h
    cases hv'
    have hj : j < m := by
      have := (List.getElem?_eq_some_iff.1 hv).1
      simpa using this
    simp [hj] at hv
    rcases h with h | ⟨b, off, hx, h⟩
    · omega
    cases hx
    rw [add_plain, ← hv]
    exact keep hb0 (h j hj)
  refine ⟨_, _, fun ty => run_copy_row (P := Try.prog) _ 22 22 ty 5 w.heap.size 0 m m x m cap (madeCells #[.int .u8 0] m) 5 ((List.range m).map fun j => Value.int .u8 (B j)) Try.underlying22 size5 (blk_alloc_new _ _) (by simp) hsrc (by simp [size_madeCells]) (fun v hv => by obtain ⟨j, _, rfl⟩ := List.mem_map.1 hv; rfl), ?_, ?_⟩
  · refine ⟨_, m, rfl, Nat.le_refl _, .inr ⟨_, 0, rfl, fun j hj => ?_⟩⟩
    have hrow := setRow_heap (w.alloc (.cells (madeCells #[.int .u8 0] m) 5)) w.heap.size (madeCells #[.int .u8 0] m) (List.take 0 (madeCells #[Value.int IntKind.u8 0] m).toList ++ List.map (fun j => Value.int IntKind.u8 (B j)) (List.range m) ++ List.drop (0 + (List.map (fun j => Value.int IntKind.u8 (B j)) (List.range m)).length) (madeCells #[Value.int IntKind.u8 0] m).toList).toArray 5 (0, 0) (blk_alloc_new _ _)
    simp only [World.cell?, hrow]
    simp [hj, List.getElem?_append_left]
  · exact below_setRow hb0 (Nat.le_refl _) _

/-- The size guards: true just where the length is at most 2^20. -/
theorem guard10_yes (a : Option Addr) (m cap : Nat) (k : Int) (w : World) (hm : m ≤ 1048576) : Calls Try.prog 10 #[.slice a m cap, .int .i64 k] w fun e w' => e = .returned (.bool true) ∧ w' = w := by
  go_enter Try.func10, Try.ntmps10
  go_wp2_with fail
  go_ret
  exact ⟨rfl, rfl⟩

theorem guard10_no (a : Option Addr) (m cap : Nat) (k : Int) (w : World) (hm : 1048576 < m) : Calls Try.prog 10 #[.slice a m cap, .int .i64 k] w fun e w' => e = .returned (.bool false) ∧ w' = w := by
  go_enter Try.func10, Try.ntmps10
  go_wp2_with fail
  go_ret
  exact ⟨rfl, rfl⟩

theorem guard6_yes (a : Option Addr) (m cap : Nat) (w : World) (hm : m ≤ 1048576) : Calls Try.prog 6 #[.slice a m cap] w fun e w' => e = .returned (.bool true) ∧ w' = w := by
  go_enter Try.func6, Try.ntmps6
  go_wp2_with fail
  go_ret
  exact ⟨rfl, rfl⟩

theorem guard6_no (a : Option Addr) (m cap : Nat) (w : World) (hm : 1048576 < m) : Calls Try.prog 6 #[.slice a m cap] w fun e w' => e = .returned (.bool false) ∧ w' = w := by
  go_enter Try.func6, Try.ntmps6
  go_wp2_with fail
  go_ret
  exact ⟨rfl, rfl⟩

end Go.Proofs.Qxb6617825a.CopyW
