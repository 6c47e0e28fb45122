import Derived.Test.Qxb6617010aLogBase
import Derived.Deep.OwnRows
namespace Go.Proofs.Qxb6617010a.Clone
open Go.RowKit Go.Proofs.Qxb6617010a.LogB

theorem info5 : (Try.prog.info? 5).map (fun i => (i.zero, i.size, i.bytes)) = some (some (.int .u8 0), 1, 1) := by kernel_rfl

/-- It hands back m bytes that read as B; nothing that was there turns. -/
def Copied (m : Nat) (B : Nat → Int) (w : World) (e : Ending) (w' : World) : Prop := ∃ v, e = .returned v ∧ BytesAt w.heap.size w' v m B ∧ Below w.heap.size w w'

/-- What the copy's row holds behind k rounds. -/
def partB (k : Nat) (B : Nat → Int) (j : Nat) : Value := .int .u8 (if j < k then B j else 0)

theorem partB_zero (B : Nat → Int) : partB 0 B = fun _ => .int .u8 0 := by funext j; simp [partB]

theorem partB_step (k m : Nat) (B : Nat → Int) (j : Nat) (_ : j < m) : (if j = k then Value.int .u8 (B k) else partB k B j) = partB (k + 1) B j := by
  unfold partB
  by_cases h : j = k
  · subst h; simp
  · by_cases h2 : j < k
    · simp [h, h2, Nat.lt_succ_of_lt h2]
    · simp [h, h2, show ¬ j < k + 1 by omega]

set_option maxHeartbeats 400000 in
theorem cloneBytes (v : Value) (m : Nat) (B : Nat → Int) (w : World) (h : BytesAt 0 w v m B) (hm : m ≤ 1048576) :
    Calls Try.prog 24 #[v] w (Copied m B w) := by
  obtain ⟨a, cap, rfl, h⟩ := h
  have hnil := fun (w : World) (a : Option Addr) (n c n' c' : Nat) => Lib.run_eql_slice_nil (P := Try.prog) w 35 5 a n c n' c' Try.underlying35
  have hmk := run_make_row' (P := Try.prog) 35 5 (.int .u8 0) 1 Try.underlying35 info5 rfl .i64 .i64 m (by omega) (by omega)
  cases a with
  | none =>
    have hm0 : m = 0 := by rcases h with h | ⟨_, _, h, _⟩ <;> simp_all
    subst hm0
    go_enter Try.func24, Try.ntmps24
    go_wp2_with fail
    go_ret
    exact ⟨.slice none 0 0, rfl, ⟨none, 0, rfl, .inl rfl⟩, Below.refl _ _⟩
  | some x =>
    go_enter Try.func24, Try.ntmps24
    go_wp2_with fail
    go_loopw [4] (fun i wr => ∃ k : Nat, k ≤ m ∧ i = .int .i64 k ∧ Below w.heap.size w wr ∧ wr.rowIs w.heap.size 5 m (partB k B)) (fun i _ => m - (intOf i).toNat)
    case atStart =>
      refine ⟨0, Nat.zero_le _, rfl, (Below.refl _ _).alloc (Nat.le_refl _) _, ?_⟩
      rw [partB_zero]
      exact World.rowIs_made w _ m 5
    case round =>
      obtain ⟨k, hk, rfl, hb, hrow⟩ := hrel
      by_cases hlt : k < m
      · rcases h with h | ⟨b, off, hx, _, h⟩
        · omega
        cases hx
        have hsrc := keep hb (h k hlt)
        have hdst := hrow.cell hlt
        have hfz := hrow.frozen k
        have HR : Hid (wr.rowIs w.heap.size 5 m (partB k B)) := hrow
        clear hrow h hmk hnil
        go_wp2_with fail
        exact ⟨⟨k + 1, by omega, by go_num, hb.setCell (Nat.le_refl _) _, (HR.out.set k _).congr fun j hj => partB_step k m B j hj⟩, by simp [intOf]; omega⟩
      · have hkm : k = m := by omega
        subst hkm
        clear hmk hnil
        have HR : Hid (wr.rowIs w.heap.size 5 k (partB k B)) := hrow
        clear hrow
        go_wp2_with fail
        go_ret
        refine ⟨.slice (some ⟨w.heap.size, 0, none⟩) k k, rfl, ⟨_, k, rfl, .inr ⟨_, 0, rfl, Nat.le_refl _, fun j hj => ?_⟩⟩, hb⟩
        have := HR.out.cell hj
        rw [Nat.zero_add, this]
        simp [partB, hj]

end Go.Proofs.Qxb6617010a.Clone
