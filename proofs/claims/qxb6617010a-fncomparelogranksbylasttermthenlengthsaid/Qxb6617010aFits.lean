/-
  The two size guards (zzBytes.., lawLogFits): each answers some bool and leaves the world as it was; where it answers true the log is small.
-/
import Derived.Test.Qxb6617010aLogBase
namespace Go.Proofs.Qxb6617010a.Fits
open Go.RowKit Go.Proofs.Qxb6617010a.LogB

/-- It answers a bool, nothing turns, and where it answers true: p. -/
def Tells (p : Prop) (w : World) (e : Ending) (w' : World) : Prop := ∃ r, e = .returned (.bool r) ∧ w' = w ∧ (r = true → p)
theorem tells_no {p : Prop} {w : World} : Tells p w (.returned (.bool false)) w := ⟨false, rfl, rfl, by simp⟩
theorem tells_yes {p : Prop} {w : World} (h : p) : Tells p w (.returned (.bool true)) w := ⟨true, rfl, rfl, fun _ => h⟩

set_option maxHeartbeats 400000 in
theorem zzBytes18 (a : Option Addr) (n cap : Nat) (ci : Int) (T : Nat → Int) (N : Nat → Bool) (M : Nat → Nat) (B : Nat → Nat → Int) (w : World) (h : LogAt w (.slice a n cap) n T N M B) (hn : n ≤ maxLen) (hM : ∀ i, i < n → M i ≤ maxLen) :
    Calls Try.prog 18 #[.slice a n cap, .int .u64 ci] w (Tells (∀ i, i < n → M i ≤ 1048576) w) := by
  unfold maxLen at hn hM
  by_cases h0 : 1048576 < n
  · go_enter Try.func18, Try.ntmps18
    go_wp2_with fail
    go_ret
    exact tells_no
  · go_enter Try.func18, Try.ntmps18
    go_wp2_with fail
    go_loop [5, 6] (fun z i => ∃ (k : Nat) (q : Int), k ≤ n ∧ i = .int .i64 k ∧ z = .int .i64 q ∧ 0 ≤ q ∧ q ≤ 1048576 ∧ Hid (∀ j, j < k → M j ≤ 1048576)) (fun _ i => n - (intOf i).toNat)
    case atStart => exact ⟨0, n, by omega, rfl, rfl, by omega, by omega, fun j hj => by omega⟩
    case round =>
      obtain ⟨k, q, hk, rfl, rfl, hq0, hq1, hj⟩ := hrel
      by_cases hlt : k < n
      · obtain ⟨a', cap', hv, _, he⟩ := h
        cases hv
        rcases he with he | ⟨b, off, rfl, he⟩
        · omega
        obtain ⟨c, _, _, hc, ca, cc, rfl, _⟩ := he k hlt
        have hMk := hM k hlt
        clear he hM
        by_cases h1 : 1048576 < M k
        · go_wp2_with fail
          go_ret
          exact tells_no
        · by_cases h2 : 1048576 < q + (M k : Int)
          · go_wp2_with fail
            go_ret
            exact tells_no
          · go_wp2_with fail
            go_round
            case rel => exact ⟨k + 1, q + (M k : Int), by omega, by go_num, by go_num, by omega, by omega, fun j hjk => by
              rcases Nat.lt_succ_iff_lt_or_eq.1 hjk with h | rfl
              · exact hj j h
              · omega⟩
            case measure => simp [intOf]; omega
      · have hkn : k = n := by omega
        have hj' : Hid (∀ j, j < n → M j ≤ 1048576) := hkn ▸ hj
        clear hkn
        go_wp2_with fail
        go_ret
        exact tells_yes hj'

set_option maxHeartbeats 400000 in
theorem zzBytes19 (a : Option Addr) (n cap : Nat) (lt li : Int) (T : Nat → Int) (N : Nat → Bool) (M : Nat → Nat) (B : Nat → Nat → Int) (w : World) (h : LogAt w (.slice a n cap) n T N M B) (hn : n ≤ maxLen) (hM : ∀ i, i < n → M i ≤ maxLen) :
    Calls Try.prog 19 #[.slice a n cap, .int .u64 lt, .int .u64 li] w (Tells (∀ i, i < n → M i ≤ 1048576) w) := by
  unfold maxLen at hn hM
  by_cases h0 : 1048576 < n
  · go_enter Try.func19, Try.ntmps19
    go_wp2_with fail
    go_ret
    exact tells_no
  · go_enter Try.func19, Try.ntmps19
    go_wp2_with fail
    go_loop [7, 8] (fun z i => ∃ (k : Nat) (q : Int), k ≤ n ∧ i = .int .i64 k ∧ z = .int .i64 q ∧ 0 ≤ q ∧ q ≤ 1048576 ∧ Hid (∀ j, j < k → M j ≤ 1048576)) (fun _ i => n - (intOf i).toNat)
    case atStart => exact ⟨0, n, by omega, rfl, rfl, by omega, by omega, fun j hj => by omega⟩
    case round =>
      obtain ⟨k, q, hk, rfl, rfl, hq0, hq1, hj⟩ := hrel
      by_cases hlt : k < n
      · obtain ⟨a', cap', hv, _, he⟩ := h
        cases hv
        rcases he with he | ⟨b, off, rfl, he⟩
        · omega
        obtain ⟨c, _, _, hc, ca, cc, rfl, _⟩ := he k hlt
        have hMk := hM k hlt
        clear he hM
        by_cases h1 : 1048576 < M k
        · go_wp2_with fail
          go_ret
          exact tells_no
        · by_cases h2 : 1048576 < q + (M k : Int)
          · go_wp2_with fail
            go_ret
            exact tells_no
          · go_wp2_with fail
            go_round
            case rel => exact ⟨k + 1, q + (M k : Int), by omega, by go_num, by go_num, by omega, by omega, fun j hjk => by
              rcases Nat.lt_succ_iff_lt_or_eq.1 hjk with h | rfl
              · exact hj j h
              · omega⟩
            case measure => simp [intOf]; omega
      · have hkn : k = n := by omega
        have hj' : Hid (∀ j, j < n → M j ≤ 1048576) := hkn ▸ hj
        clear hkn
        go_wp2_with fail
        go_ret
        exact tells_yes hj'

set_option maxHeartbeats 400000 in
theorem logFits (a : Option Addr) (n cap : Nat) (T : Nat → Int) (N : Nat → Bool) (M : Nat → Nat) (B : Nat → Nat → Int) (w : World) (h : LogAt w (.slice a n cap) n T N M B) (hn : n ≤ maxLen) (hM : ∀ i, i < n → M i ≤ 1048576) :
    Calls Try.prog 10 #[.slice a n cap] w (Tells (n ≤ 32768) w) := by
  unfold maxLen at hn
  by_cases h0 : 65536 < n
  · go_enter Try.func10, Try.ntmps10
    go_wp2_with fail
    go_ret
    exact tells_no
  · by_cases h3 : 1048576 < (n : Int) * 32
    · go_enter Try.func10, Try.ntmps10
      go_wp2_with fail
      go_ret
      exact tells_no
    · go_enter Try.func10, Try.ntmps10
      go_wp2_with fail
      go_loop [3, 4] (fun z i => ∃ (k : Nat) (q : Int), k ≤ n ∧ i = .int .i64 k ∧ z = .int .i64 q ∧ 0 ≤ q ∧ q ≤ 1048576) (fun _ i => n - (intOf i).toNat)
      case atStart => exact ⟨0, _, by omega, rfl, rfl, by omega, by omega⟩
      case round =>
        obtain ⟨k, q, hk, rfl, rfl, hq0, hq1⟩ := hrel
        by_cases hlt : k < n
        · obtain ⟨a', cap', hv, _, he⟩ := h
          cases hv
          rcases he with he | ⟨b, off, rfl, he⟩
          · omega
          obtain ⟨c, _, _, hc, ca, cc, rfl, _⟩ := he k hlt
          have hMk := hM k hlt
          clear he hM
          by_cases h2 : 1048576 < q + (M k : Int)
          · go_wp2_with fail
            go_ret
            exact tells_no
          · go_wp2_with fail
            go_round
            case rel => exact ⟨k + 1, q + (M k : Int), by omega, by go_num, by go_num, by omega, by omega⟩
            case measure => simp [intOf]; omega
        · go_wp2_with fail
          go_ret
          exact tells_yes (by omega)

end Go.Proofs.Qxb6617010a.Fits
