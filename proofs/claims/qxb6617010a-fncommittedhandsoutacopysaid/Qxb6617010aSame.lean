import Derived.Test.Qxb6617010aLogBase
import Derived.Deep.RegionHeld3
import Derived.Deep.DrawnRows
import Derived.BigQuiet
namespace Go.Proofs.Qxb6617010a.Same
open Go.RowKit Go.Proofs.Qxb6617010a.LogB
attribute [local go_sem ↓] Go.wp_at_zero Go.wp_at_succ

/-- It answers true; nothing that was there turns. -/
def Yes (w : World) (e : Ending) (w' : World) : Prop := e = .returned (.bool true) ∧ Below w.heap.size w w'

set_option maxHeartbeats 400000 in
theorem sameBytes (va vb : Value) (m : Nat) (B : Nat → Int) (w : World) (hm : m ≤ 1048576) (ha : BytesAt 0 w va m B) (hb : BytesAt 0 w vb m B) :
    Calls Try.prog 29 #[va, vb] w (Yes w) := by
  obtain ⟨a1, c1, rfl, ha⟩ := ha
  obtain ⟨a2, c2, rfl, hb⟩ := hb
  have hmm : ((m : Int) != (m : Int)) = false := by simp
  go_enter Try.func29, Try.ntmps29
  go_wp2_with fail
  go_loopw [5] (fun i wr => ∃ k : Nat, k ≤ m ∧ i = .int .i64 k ∧ Below w.heap.size w wr) (fun i _ => m - (intOf i).toNat)
  case atStart => exact ⟨0, Nat.zero_le _, rfl, Below.refl _ _⟩
  case round =>
    obtain ⟨k, hk, rfl, hbw⟩ := hrel
    by_cases hlt : k < m
    · rcases ha with ha | ⟨b1, o1, rfl, _, ha⟩
      · omega
      rcases hb with hb | ⟨b2, o2, rfl, _, hb⟩
      · omega
      have s1 := keep hbw (ha k hlt)
      have s2 := keep hbw (hb k hlt)
      have i0 : (0 : Int) ≤ (k : Int) := by omega
      have i1 : (k : Int) < (m : Int) := by omega
      clear ha hb
      go_wp2_with fail
      go_region_held3 (fun w' => w'.cell? ⟨b1, o1 + k, none⟩ = some (.int .u8 (B k)) ∧ w'.cell? ⟨b2, o2 + k, none⟩ = some (.int .u8 (B k)))
        (exact ⟨s1, s2⟩) (fail)
      go_wp2_with fail
      exact ⟨⟨k + 1, by omega, by go_num, hbw.drew⟩, by simp [intOf]; omega⟩
    · go_wp2_with fail
      go_ret
      exact ⟨rfl, hbw⟩

set_option maxHeartbeats 400000 in
theorem sameEntry (a1 a2 : Option Addr) (c1 c2 : Nat) (T : Int) (N : Bool) (M : Nat) (B : Nat → Int) (w : World) (hm : M ≤ 1048576) (ha : BytesAt 0 w (.slice a1 M c1) M B) (hb : BytesAt 0 w (.slice a2 M c2) M B) :
    Calls Try.prog 16 #[.agg #[.int .u64 T, .bool N, .slice a1 M c1], .agg #[.int .u64 T, .bool N, .slice a2 M c2]] w (Yes w) := by
  have hbw : Below w.heap.size w ((w.alloc (.cells #[.int .u64 T, .bool N, .slice a1 M c1] 37)).alloc (.cells #[.int .u64 T, .bool N, .slice a2 M c2] 39)) := LogB.stepA (LogB.stepA (Below.refl _ _) _) _
  have HA : Hid (BytesAt 0 ((w.alloc (.cells #[.int .u64 T, .bool N, .slice a1 M c1] 37)).alloc (.cells #[.int .u64 T, .bool N, .slice a2 M c2] 39)) (.slice a1 M c1) M B) := ha.below hbw
  have HB : Hid (BytesAt 0 ((w.alloc (.cells #[.int .u64 T, .bool N, .slice a1 M c1] 37)).alloc (.cells #[.int .u64 T, .bool N, .slice a2 M c2] 39)) (.slice a2 M c2) M B) := hb.below hbw
  clear ha hb
  have e1 : (T == T) = true := by simp
  have e2 : (N == N) = true := by simp
  go_enter Try.func16, Try.ntmps16
  go_wp2_with (go_at_call 29; refine (sameBytes _ _ M B _ hm HA.out HB.out).mono ?_; rintro e w1 ⟨rfl, hb1⟩)
  go_ret
  exact ⟨rfl, LogB.step hbw hb1⟩

end Go.Proofs.Qxb6617010a.Same
