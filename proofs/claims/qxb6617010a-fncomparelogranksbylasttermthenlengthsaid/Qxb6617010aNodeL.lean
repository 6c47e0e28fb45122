import Derived.Test.Qxb6617010aLogBase
import Derived.Deep.RegionHeld3
import Derived.Deep.DrawnRows
namespace Go.Proofs.Qxb6617010a.NodeL
open Go.RowKit Go.Proofs.Qxb6617010a.LogB
attribute [local go_sem ↓] Go.wp_at_zero Go.wp_at_succ

/-- A node at block b: the cells of its log and of its commit index. -/
structure NodeAt (b : Nat) (v : Value) (ci : Int) (w : World) : Prop where
  lt : b < w.heap.size
  log : w.cell? ⟨b, 21, none⟩ = some v
  ci : w.cell? ⟨b, 22, none⟩ = some (.int .u64 ci)

theorem NodeAt.below {b : Nat} {v : Value} {ci : Int} {w w' : World} (h : NodeAt b v ci w) (hb : Below w.heap.size w w') : NodeAt b v ci w' :=
  ⟨Nat.lt_of_lt_of_le h.lt hb.size, keep hb h.log, keep hb h.ci⟩

def Made (v : Value) (ci : Int) (w : World) (e : Ending) (w' : World) : Prop := e = .returned (.pointer (some ⟨w.heap.size, 0, none⟩)) ∧ NodeAt w.heap.size v ci w' ∧ Below w.heap.size w w'

set_option maxHeartbeats 400000 in
theorem newNode (a : Option Addr) (n cap : Nat) (ci : Int) (w : World) : Calls Try.prog 12 #[.slice a n cap, .int .u64 ci] w (Made (.slice a n cap) ci w) := by
  go_enter Try.func12, Try.ntmps12
  go_wp2_with fail
  go_ret
  exact ⟨rfl, ⟨by simp, by simp, by simp⟩, (Below.refl _ _).alloc (Nat.le_refl _) _⟩

set_option maxHeartbeats 400000 in
theorem lastIndex (b : Nat) (a : Option Addr) (n cap : Nat) (ci : Int) (w : World) (hn : n ≤ 1048576) (h : NodeAt b (.slice a n cap) ci w) :
    Calls Try.prog 15 #[.pointer (some ⟨b, 0, none⟩)] w fun e w' => e = .returned (.int .u64 n) ∧ w' = w := by
  obtain ⟨hlt, hl, hci⟩ := h
  go_enter Try.func15, Try.ntmps15
  go_wp2_with fail
  go_ret
  exact ⟨rfl, rfl⟩

/-- EntryAt(i+1) hands out entry i. -/
def Entry (T : Int) (N : Bool) (M : Nat) (B : Nat → Int) (w : World) (e : Ending) (w' : World) : Prop :=
  ∃ a cap, e = .returned (.agg #[.int .u64 T, .bool N, .slice a M cap]) ∧ BytesAt 0 w' (.slice a M cap) M B ∧ Below w.heap.size w w'

set_option maxHeartbeats 400000 in
theorem entryAt (b : Nat) (a : Option Addr) (n cap : Nat) (ci : Int) (T : Nat → Int) (N : Nat → Bool) (M : Nat → Nat) (B : Nat → Nat → Int) (i : Nat) (w : World) (hn : n ≤ 1048576) (h : NodeAt b (.slice a n cap) ci w) (hl : LogAt w (.slice a n cap) n T N M B) (hi : i < n) :
    Calls Try.prog 17 #[.pointer (some ⟨b, 0, none⟩), .int .u64 ((i : Int) + 1)] w (Entry (T i) (N i) (M i) (B i) w) := by
  obtain ⟨hlt, hlog, hci⟩ := h
  obtain ⟨a, cap, hv, _, hl⟩ := hl
  cases hv
  rcases hl with hl | ⟨b', off, rfl, hl⟩
  · omega
  obtain ⟨c, s0, s1, s2, ca, cc, rfl, hc⟩ := hl i hi
  have HC : Hid (BytesAt 0 w (.slice ca (M i) cc) (M i) (B i)) := ⟨ca, cc, rfl, hc⟩
  have hbl : b' < w.heap.size := World.block_lt_of_cell? _ _ s0
  clear hl hc
  go_enter Try.func17, Try.ntmps17
  go_wp2_with fail
  have hbw : Below w.heap.size w (w.alloc (Obj.cells #[Value.int IntKind.u64 (T i), Value.bool (N i), Value.slice ca (M i) cc] 37)) := (Below.refl _ _).alloc (Nat.le_refl _) _
  exact bodyPost_ret (v := .agg #[.int .u64 (T i), .bool (N i), .slice ca (M i) cc]) (by simp [results, Try.results17, go_sem]) rfl ⟨ca, cc, rfl, HC.out.below hbw, hbw⟩

end Go.Proofs.Qxb6617010a.NodeL
