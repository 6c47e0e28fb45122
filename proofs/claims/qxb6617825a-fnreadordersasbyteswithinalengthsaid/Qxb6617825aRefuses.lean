import Derived.Test.Qxb6617825aCopy
namespace Go.Proofs.Qxb6617825a.Refuses
open Go.RowKit Go.Deep Go.Proofs.Qxb6617825a.Plain Go.Proofs.Qxb6617825a.ReadW Go.Proofs.Qxb6617825a.CopyW

/-- It answers true; nothing that was there turns. -/
def Yes (w : World) (e : Ending) (w' : World) : Prop := e = .returned (.bool true) ∧ Below w.heap.size w w'

theorem big (a : Option Addr) (m cap : Nat) (k : Int) (w : World) (hm : 1048576 < m) : Calls Try.prog 4 #[.slice a m cap, .int .i64 k] w (Yes w) := by
  go_enter Try.func4, Try.ntmps4
  go_wp2_with fail
  refine (guard10_no _ _ _ _ _ hm).mono ?_
  rintro e w1 ⟨rfl, rfl⟩
  go_wp2_with fail
  go_ret
  exact ⟨rfl, Below.refl _ _⟩

theorem outside (a : Option Addr) (m cap : Nat) (k : Int) (w : World) (hm : m ≤ 1048576) (hk : k < 0 ∨ (m : Int) < k) : Calls Try.prog 4 #[.slice a m cap, .int .i64 k] w (Yes w) := by
  by_cases h1 : k < 0
  · clear hk
    go_enter Try.func4, Try.ntmps4
    go_wp2_with fail
    refine (guard10_yes _ _ _ _ _ hm).mono ?_
    rintro e w1 ⟨rfl, rfl⟩
    go_wp2_with fail
    go_ret
    exact ⟨rfl, Below.refl _ _⟩
  · have h2 : (m : Int) < k := by omega
    clear hk
    go_enter Try.func4, Try.ntmps4
    go_wp2_with fail
    refine (guard10_yes _ _ _ _ _ hm).mono ?_
    rintro e w1 ⟨rfl, rfl⟩
    go_wp2_with fail
    go_ret
    exact ⟨rfl, Below.refl _ _⟩

/-- Read of too few bytes. -/
theorem read_zero (a : Option Addr) (m cap : Nat) (B : Nat → Int) (w : World) (h : BytesAt w (.slice a m cap) m B) (hm : m ≤ 1048576) (hB : ∀ j, 0 ≤ B j ∧ B j ≤ 255) (hz : m = 0 ∨ m < need (B 0)) :
    Calls Try.prog 7 #[.slice a m cap] w fun e w' => e = .returned (.tuple #[.int .u64 0, .int .i64 0]) ∧ w' = w := by
  have := read_any a m cap B w h hm hB
  have e1 : rv m B = 0 := by unfold rv; by_cases h0 : m = 0 <;> simp [h0]; omega
  have e2 : rn m B = 0 := by unfold rn; by_cases h0 : m = 0 <;> simp [h0]; omega
  rw [e1, e2] at this
  exact this

/-- Read of enough bytes. -/
theorem read_val (a : Option Addr) (m cap : Nat) (B : Nat → Int) (w : World) (h : BytesAt w (.slice a m cap) m B) (hm : m ≤ 1048576) (hB : ∀ j, 0 ≤ B j ∧ B j ≤ 255) (hz : need (B 0) ≤ m) :
    Calls Try.prog 7 #[.slice a m cap] w fun e w' => e = .returned (.tuple #[.int .u64 (val B (need (B 0) - 1)), .int .i64 (need (B 0))]) ∧ w' = w := by
  have := read_any a m cap B w h hm hB
  have hn : 1 ≤ need (B 0) := by unfold need; split; omega; split; omega; split <;> omega
  have e1 : rv m B = val B (need (B 0) - 1) := by unfold rv; rw [if_neg (by omega), if_neg (by omega)]
  have e2 : rn m B = need (B 0) := by unfold rn; rw [if_neg (by omega), if_neg (by omega)]
  rw [e1, e2] at this
  exact this

theorem bytes_take {w : World} {a : Option Addr} {m cap k : Nat} {B : Nat → Int} (h : BytesAt w (.slice a m cap) m B) (hk : k ≤ m) : BytesAt w (.slice a k cap) k B := by
  obtain ⟨a', cap', hv, hc, h⟩ := h
  cases hv
  refine ⟨a, cap, rfl, by omega, ?_⟩
  rcases h with h | ⟨b, off, ha, h⟩
  · exact .inl (by omega)
  · exact .inr ⟨b, off, ha, fun j hj => h j (by omega)⟩

set_option maxHeartbeats 400000 in
theorem nil (cap : Nat) (w : World) : Calls Try.prog 4 #[.slice none 0 cap, .int .i64 0] w (Yes w) := by
  have hnn := fun (w : World) (a : Option Addr) (n c n' c' : Nat) => run_neq_slice_nil_any (P := Try.prog) w 22 5 a n c n' c' Try.underlying22
  go_enter Try.func4, Try.ntmps4
  go_wp2_with fail
  refine (guard10_yes _ _ _ _ _ (by omega)).mono ?_
  rintro e w1 ⟨rfl, rfl⟩
  go_wp2_with fail
  refine (read_nil _ _ _).mono ?_
  rintro e w1 ⟨rfl, rfl⟩
  go_wp2_with fail
  refine (read_nil _ _ _).mono ?_
  rintro e w1 ⟨rfl, rfl⟩
  go_wp2_with fail
  go_ret
  exact ⟨rfl, Below.refl _ _⟩

set_option maxHeartbeats 400000 in
theorem some_zero (x : Addr) (cap : Nat) (B : Nat → Int) (w : World) (h : BytesAt w (.slice (some x) 0 cap) 0 B) (hB : ∀ j, 0 ≤ B j ∧ B j ≤ 255)  :
    Calls Try.prog 4 #[.slice (some x) 0 cap, .int .i64 0] w (Yes w) := by
  have hm : 0 ≤ 1048576 := by omega
  have hnn := fun (w : World) (a : Option Addr) (n c n' c' : Nat) => run_neq_slice_nil_any (P := Try.prog) w 22 5 a n c n' c' Try.underlying22
  have hmk : ∀ w : World, (Instr.makeSlice 22 (.int .i64 0) (.int .i64 0)).run Try.prog w = .ok (.slice (some ⟨w.heap.size, 0, none⟩) 0 0) (w.alloc (.cells (madeCells #[.int .u8 0] 0) 5)) := run_make_row' (P := Try.prog) 22 5 (.int .u8 0) 1 Try.underlying22 info5 rfl .i64 .i64 0 (by omega) (by omega)
  obtain ⟨u, W1, hcp, hb1, hbel⟩ := copy_run x 0 cap B w h
  have hcp := hcp 3
  have R1 : Hid (Calls Try.prog 7 #[.slice (some ⟨w.heap.size, 0, none⟩) 0 0] W1 fun e w' => e = .returned (.tuple #[.int .u64 0, .int .i64 0]) ∧ w' = W1) := read_zero _ 0 0 B W1 (bytes_take hb1 (by omega)) (by omega) hB (by omega)
  have R2 : Hid (Calls Try.prog 7 #[.slice (some ⟨w.heap.size, 0, none⟩) 0 0] W1 fun e w' => e = .returned (.tuple #[.int .u64 0, .int .i64 0]) ∧ w' = W1) := read_zero _ 0 0 B W1 (bytes_take hb1 (by omega)) (by omega) hB (by omega)
  clear hb1 hB h
  go_enter Try.func4, Try.ntmps4
  go_wp2_with fail
  refine (guard10_yes _ _ _ _ _ hm).mono ?_
  rintro e w1 ⟨rfl, rfl⟩
  go_wp2_with fail
  refine R1.out.mono ?_
  rintro e w2 ⟨rfl, rfl⟩
  go_wp2_with fail
  refine R2.out.mono ?_
  rintro e w2 ⟨rfl, rfl⟩
  go_wp2_with fail
  go_ret
  exact ⟨rfl, hbel⟩

set_option maxHeartbeats 400000 in
theorem some_short (x : Addr) (m cap k : Nat) (B : Nat → Int) (w : World) (h : BytesAt w (.slice (some x) m cap) m B) (hm : m ≤ 1048576) (hB : ∀ j, 0 ≤ B j ∧ B j ≤ 255) (hk : k ≤ m) (hm0 : 0 < m) (hn : m < need (B 0)) :
    Calls Try.prog 4 #[.slice (some x) m cap, .int .i64 (k : Int)] w (Yes w) := by
  have hnn := fun (w : World) (a : Option Addr) (n c n' c' : Nat) => run_neq_slice_nil_any (P := Try.prog) w 22 5 a n c n' c' Try.underlying22
  have hmk := run_make_row' (P := Try.prog) 22 5 (.int .u8 0) 1 Try.underlying22 info5 rfl .i64 .i64 m (by omega) (by omega)
  obtain ⟨u, W1, hcp, hb1, hbel⟩ := copy_run x m cap B w h
  have hcp := hcp 3
  have R1 : Hid (Calls Try.prog 7 #[.slice (some ⟨w.heap.size, 0, none⟩) m m] W1 fun e w' => e = .returned (.tuple #[.int .u64 0, .int .i64 0]) ∧ w' = W1) := read_zero _ m m B W1 (bytes_take hb1 (by omega)) (by omega) hB (by omega)
  have R2 : Hid (Calls Try.prog 7 #[.slice (some ⟨w.heap.size, 0, none⟩) k m] W1 fun e w' => e = .returned (.tuple #[.int .u64 0, .int .i64 0]) ∧ w' = W1) := read_zero _ k m B W1 (bytes_take hb1 (by omega)) (by omega) hB (by omega)
  have Z : Hid (Calls Try.prog 8 #[.int .u8 (B 0)] W1 fun e w' => e = .returned (.int .i64 (need (B 0))) ∧ w' = W1) := zzNeed _ _ (hB 0).1 (hB 0).2
  have c0 : W1.cell? ⟨w.heap.size, 0, none⟩ = some (.int .u8 (B 0)) := by
    obtain ⟨a', cap', hv, _, hb1⟩ := hb1
    cases hv
    rcases hb1 with h0 | ⟨b, off, hx, hb1⟩
    · omega
    cases hx
    exact hb1 0 (by omega)
  have hn1 : 1 ≤ need (B 0) := by unfold need; split; omega; split; omega; split <;> omega
  have hz : ((m : Int) == 0) = false := beq_eq_false_iff_ne.2 (by omega)
  clear hb1 hB h
  generalize val B (need (B 0) - 1) = V at *
  generalize need (B 0) = N at *
  generalize B 0 = f at *
  have hk0 : (0 : Int) ≤ (k : Int) := by omega
  have hkm : (k : Int) ≤ (m : Int) := by omega
  go_enter Try.func4, Try.ntmps4
  go_wp2_with fail
  refine (guard10_yes _ _ _ _ _ hm).mono ?_
  rintro e w1 ⟨rfl, rfl⟩
  go_wp2_with fail
  refine R1.out.mono ?_
  rintro e w2 ⟨rfl, rfl⟩
  go_wp2_with fail
  refine R2.out.mono ?_
  rintro e w2 ⟨rfl, rfl⟩
  go_wp2_with fail
  refine Z.out.mono ?_
  rintro e w2 ⟨rfl, rfl⟩
  go_wp2_with fail
  go_ret
  exact ⟨rfl, hbel⟩

set_option maxHeartbeats 400000 in
theorem some_cut (x : Addr) (m cap k : Nat) (B : Nat → Int) (w : World) (h : BytesAt w (.slice (some x) m cap) m B) (hm : m ≤ 1048576) (hB : ∀ j, 0 ≤ B j ∧ B j ≤ 255) (hk : k ≤ m) (hm0 : 0 < m) (hn : need (B 0) ≤ m) (hkn : k < need (B 0)) :
    Calls Try.prog 4 #[.slice (some x) m cap, .int .i64 (k : Int)] w (Yes w) := by
  have hnn := fun (w : World) (a : Option Addr) (n c n' c' : Nat) => run_neq_slice_nil_any (P := Try.prog) w 22 5 a n c n' c' Try.underlying22
  have hmk := run_make_row' (P := Try.prog) 22 5 (.int .u8 0) 1 Try.underlying22 info5 rfl .i64 .i64 m (by omega) (by omega)
  obtain ⟨u, W1, hcp, hb1, hbel⟩ := copy_run x m cap B w h
  have hcp := hcp 3
  have R1 : Hid (Calls Try.prog 7 #[.slice (some ⟨w.heap.size, 0, none⟩) m m] W1 fun e w' => e = .returned (.tuple #[.int .u64 (val B (need (B 0) - 1)), .int .i64 (need (B 0))]) ∧ w' = W1) := read_val _ m m B W1 (bytes_take hb1 (by omega)) (by omega) hB (by omega)
  have R2 : Hid (Calls Try.prog 7 #[.slice (some ⟨w.heap.size, 0, none⟩) k m] W1 fun e w' => e = .returned (.tuple #[.int .u64 0, .int .i64 0]) ∧ w' = W1) := read_zero _ k m B W1 (bytes_take hb1 (by omega)) (by omega) hB (by omega)
  have Z : Hid (Calls Try.prog 8 #[.int .u8 (B 0)] W1 fun e w' => e = .returned (.int .i64 (need (B 0))) ∧ w' = W1) := zzNeed _ _ (hB 0).1 (hB 0).2
  have c0 : W1.cell? ⟨w.heap.size, 0, none⟩ = some (.int .u8 (B 0)) := by
    obtain ⟨a', cap', hv, _, hb1⟩ := hb1
    cases hv
    rcases hb1 with h0 | ⟨b, off, hx, hb1⟩
    · omega
    cases hx
    exact hb1 0 (by omega)
  have hn1 : 1 ≤ need (B 0) := by unfold need; split; omega; split; omega; split <;> omega
  have hz : ((m : Int) == 0) = false := beq_eq_false_iff_ne.2 (by omega)
  clear hb1 hB h
  generalize val B (need (B 0) - 1) = V at *
  generalize need (B 0) = N at *
  generalize B 0 = f at *
  have hk0 : (0 : Int) ≤ (k : Int) := by omega
  have hkm : (k : Int) ≤ (m : Int) := by omega
  go_enter Try.func4, Try.ntmps4
  go_wp2_with fail
  refine (guard10_yes _ _ _ _ _ hm).mono ?_
  rintro e w1 ⟨rfl, rfl⟩
  go_wp2_with fail
  refine R1.out.mono ?_
  rintro e w2 ⟨rfl, rfl⟩
  go_wp2_with fail
  refine R2.out.mono ?_
  rintro e w2 ⟨rfl, rfl⟩
  go_wp2_with fail
  refine Z.out.mono ?_
  rintro e w2 ⟨rfl, rfl⟩
  go_wp2_with fail
  go_ret
  exact ⟨rfl, hbel⟩

set_option maxHeartbeats 400000 in
theorem some_full (x : Addr) (m cap k : Nat) (B : Nat → Int) (w : World) (h : BytesAt w (.slice (some x) m cap) m B) (hm : m ≤ 1048576) (hB : ∀ j, 0 ≤ B j ∧ B j ≤ 255) (hk : k ≤ m) (hm0 : 0 < m) (hn : need (B 0) ≤ k) :
    Calls Try.prog 4 #[.slice (some x) m cap, .int .i64 (k : Int)] w (Yes w) := by
  have hnn := fun (w : World) (a : Option Addr) (n c n' c' : Nat) => run_neq_slice_nil_any (P := Try.prog) w 22 5 a n c n' c' Try.underlying22
  have hmk := run_make_row' (P := Try.prog) 22 5 (.int .u8 0) 1 Try.underlying22 info5 rfl .i64 .i64 m (by omega) (by omega)
  obtain ⟨u, W1, hcp, hb1, hbel⟩ := copy_run x m cap B w h
  have hcp := hcp 3
  have R1 : Hid (Calls Try.prog 7 #[.slice (some ⟨w.heap.size, 0, none⟩) m m] W1 fun e w' => e = .returned (.tuple #[.int .u64 (val B (need (B 0) - 1)), .int .i64 (need (B 0))]) ∧ w' = W1) := read_val _ m m B W1 (bytes_take hb1 (by omega)) (by omega) hB (by omega)
  have R2 : Hid (Calls Try.prog 7 #[.slice (some ⟨w.heap.size, 0, none⟩) k m] W1 fun e w' => e = .returned (.tuple #[.int .u64 (val B (need (B 0) - 1)), .int .i64 (need (B 0))]) ∧ w' = W1) := read_val _ k m B W1 (bytes_take hb1 (by omega)) (by omega) hB (by omega)
  have Z : Hid (Calls Try.prog 8 #[.int .u8 (B 0)] W1 fun e w' => e = .returned (.int .i64 (need (B 0))) ∧ w' = W1) := zzNeed _ _ (hB 0).1 (hB 0).2
  have c0 : W1.cell? ⟨w.heap.size, 0, none⟩ = some (.int .u8 (B 0)) := by
    obtain ⟨a', cap', hv, _, hb1⟩ := hb1
    cases hv
    rcases hb1 with h0 | ⟨b, off, hx, hb1⟩
    · omega
    cases hx
    exact hb1 0 (by omega)
  have hn1 : 1 ≤ need (B 0) := by unfold need; split; omega; split; omega; split <;> omega
  have hz : ((m : Int) == 0) = false := beq_eq_false_iff_ne.2 (by omega)
  clear hb1 hB h
  generalize val B (need (B 0) - 1) = V at *
  generalize need (B 0) = N at *
  generalize B 0 = f at *
  have hk0 : (0 : Int) ≤ (k : Int) := by omega
  have hkm : (k : Int) ≤ (m : Int) := by omega
  go_enter Try.func4, Try.ntmps4
  go_wp2_with fail
  refine (guard10_yes _ _ _ _ _ hm).mono ?_
  rintro e w1 ⟨rfl, rfl⟩
  go_wp2_with fail
  refine R1.out.mono ?_
  rintro e w2 ⟨rfl, rfl⟩
  go_wp2_with fail
  refine R2.out.mono ?_
  rintro e w2 ⟨rfl, rfl⟩
  go_wp2_with fail
  refine Z.out.mono ?_
  rintro e w2 ⟨rfl, rfl⟩
  go_wp2_with fail
  go_ret
  exact ⟨rfl, hbel⟩

/-- The walk, whatever the bytes and the cut. -/
theorem walk (a : Option Addr) (m cap : Nat) (k : Int) (B : Nat → Int) (w : World) (h : BytesAt w (.slice a m cap) m B) (hB : ∀ j, 0 ≤ B j ∧ B j ≤ 255) : Calls Try.prog 4 #[.slice a m cap, .int .i64 k] w (Yes w) := by
  by_cases hm : 1048576 < m
  · exact big a m cap k w hm
  by_cases hk : k < 0 ∨ (m : Int) < k
  · exact outside a m cap k w (by omega) hk
  obtain ⟨K, rfl⟩ := Int.eq_ofNat_of_zero_le (show 0 ≤ k by omega)
  cases a with
  | none =>
    have hm0 : m = 0 := by
      obtain ⟨a', cap', hv, _, h⟩ := h
      cases hv
      rcases h with h | ⟨_, _, h, _⟩
      · exact h
      · cases h
    subst hm0
    have hK : K = 0 := by omega
    subst hK
    exact nil cap w
  | some x =>
    by_cases hm0 : m = 0
    · subst hm0
      have hK : K = 0 := by omega
      subst hK
      exact some_zero x cap B w h hB
    by_cases hs : m < need (B 0)
    · exact some_short x m cap K B w h (by omega) hB (by omega) (by omega) hs
    by_cases hc : K < need (B 0)
    · exact some_cut x m cap K B w h (by omega) hB (by omega) (by omega) (by omega) hc
    · exact some_full x m cap K B w h (by omega) hB (by omega) (by omega) (by omega)

end Go.Proofs.Qxb6617825a.Refuses
