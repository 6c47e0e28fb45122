/-
  The walk of FnReadDecodesRFC9000Encoding.
-/
import Derived.Test.Qxb6617825aRefuses
import Derived.Test.Qxb6617825aPlain2
namespace Go.Proofs.Qxb6617825a.Decodes
open Go.RowKit Go.Deep Go.Proofs.Qxb6617825a.Plain Go.Proofs.Qxb6617825a.Plain2 Go.Proofs.Qxb6617825a.ReadW Go.Proofs.Qxb6617825a.CopyW Go.Proofs.Qxb6617825a.Refuses

/-- The cells of a copy that starts at its block's head. -/
theorem own_cells {w : World} {g m cap : Nat} {B : Nat → Int} (h : BytesAt w (.slice (some ⟨g, 0, none⟩) m cap) m B) (j : Nat) (hj : j < m) : w.cell? ⟨g, j, none⟩ = some (.int .u8 (B j)) := by
  obtain ⟨a', cap', hv, _, h⟩ := h
  cases hv
  rcases h with h0 | ⟨b, off, hx, h⟩
  · omega
  cases hx
  have := h j hj
  rwa [Nat.zero_add] at this

theorem big (a : Option Addr) (m cap : Nat) (w : World) (hm : 1048576 < m) : Calls Try.prog 3 #[.slice a m cap] w (Yes w) := by
  go_enter Try.func3, Try.ntmps3
  go_wp2_with fail
  refine (guard6_no _ _ _ _ hm).mono ?_
  rintro e w1 ⟨rfl, rfl⟩
  go_wp2_with fail
  go_ret
  exact ⟨rfl, Below.refl _ _⟩

set_option maxHeartbeats 400000 in
theorem nil (cap : Nat) (w : World) : Calls Try.prog 3 #[.slice none 0 cap] w (Yes w) := by
  have hnn := fun (w : World) (a : Option Addr) (n c n' c' : Nat) => run_neq_slice_nil_any (P := Try.prog) w 22 5 a n c n' c' Try.underlying22
  go_enter Try.func3, Try.ntmps3
  go_wp2_with fail
  refine (guard6_yes _ _ _ _ (by omega)).mono ?_
  rintro e w1 ⟨rfl, rfl⟩
  go_wp2_with fail
  refine (read_nil _ _ _).mono ?_
  rintro e w1 ⟨rfl, rfl⟩
  go_wp2_with fail
  go_ret
  exact ⟨rfl, Below.refl _ _⟩

set_option maxHeartbeats 400000 in
theorem some_zero (x : Addr) (cap : Nat) (B : Nat → Int) (w : World) (h : BytesAt w (.slice (some x) 0 cap) 0 B) (hB : ∀ j, 0 ≤ B j ∧ B j ≤ 255) :
    Calls Try.prog 3 #[.slice (some x) 0 cap] w (Yes w) := by
  have hnn := fun (w : World) (a : Option Addr) (n c n' c' : Nat) => run_neq_slice_nil_any (P := Try.prog) w 22 5 a n c n' c' Try.underlying22
  have hmk : ∀ w : World, (Instr.makeSlice 22 (.int .i64 0) (.int .i64 0)).run Try.prog w = .ok (.slice (some ⟨w.heap.size, 0, none⟩) 0 0) (w.alloc (.cells (madeCells #[.int .u8 0] 0) 5)) := run_make_row' (P := Try.prog) 22 5 (.int .u8 0) 1 Try.underlying22 info5 rfl .i64 .i64 0 (by omega) (by omega)
  obtain ⟨u, W1, hcp, hb1, hbel⟩ := copy_run x 0 cap B w h
  have hcp := hcp 3
  have R1 : Hid (Calls Try.prog 7 #[.slice (some ⟨w.heap.size, 0, none⟩) 0 0] W1 fun e w' => e = .returned (.tuple #[.int .u64 0, .int .i64 0]) ∧ w' = W1) := read_zero _ 0 0 B W1 hb1 (by omega) hB (by omega)
  clear hb1 hB h
  go_enter Try.func3, Try.ntmps3
  go_wp2_with fail
  refine (guard6_yes _ _ _ _ (by omega)).mono ?_
  rintro e w1 ⟨rfl, rfl⟩
  go_wp2_with fail
  refine R1.out.mono ?_
  rintro e w2 ⟨rfl, rfl⟩
  go_wp2_with fail
  go_ret
  exact ⟨rfl, hbel⟩

set_option maxHeartbeats 400000 in
theorem some_short (x : Addr) (m cap : Nat) (B : Nat → Int) (w : World) (h : BytesAt w (.slice (some x) m cap) m B) (hm : m ≤ 1048576) (hB : ∀ j, 0 ≤ B j ∧ B j ≤ 255) (hm0 : 0 < m) (hn : m < need (B 0)) :
    Calls Try.prog 3 #[.slice (some x) m cap] w (Yes w) := by
  have hnn := fun (w : World) (a : Option Addr) (n c n' c' : Nat) => run_neq_slice_nil_any (P := Try.prog) w 22 5 a n c n' c' Try.underlying22
  have hmk := run_make_row' (P := Try.prog) 22 5 (.int .u8 0) 1 Try.underlying22 info5 rfl .i64 .i64 m (by omega) (by omega)
  obtain ⟨u, W1, hcp, hb1, hbel⟩ := copy_run x m cap B w h
  have hcp := hcp 3
  have R1 : Hid (Calls Try.prog 7 #[.slice (some ⟨w.heap.size, 0, none⟩) m m] W1 fun e w' => e = .returned (.tuple #[.int .u64 0, .int .i64 0]) ∧ w' = W1) := read_zero _ m m B W1 hb1 (by omega) hB (by omega)
  have Z : Hid (Calls Try.prog 8 #[.int .u8 (B 0)] W1 fun e w' => e = .returned (.int .i64 (need (B 0))) ∧ w' = W1) := zzNeed _ _ (hB 0).1 (hB 0).2
  have c0 := own_cells hb1 0 hm0
  have hz : ((m : Int) == 0) = false := beq_eq_false_iff_ne.2 (by omega)
  clear hb1 hB h
  generalize need (B 0) = N at *
  generalize B 0 = f at *
  go_enter Try.func3, Try.ntmps3
  go_wp2_with fail
  refine (guard6_yes _ _ _ _ hm).mono ?_
  rintro e w1 ⟨rfl, rfl⟩
  go_wp2_with fail
  refine R1.out.mono ?_
  rintro e w2 ⟨rfl, rfl⟩
  go_wp2_with fail
  refine Z.out.mono ?_
  rintro e w2 ⟨rfl, rfl⟩
  go_wp2_with fail
  go_ret
  exact ⟨rfl, hbel⟩

theorem lenbits1 (w : World) : Calls Try.prog 9 #[.int .i64 1] w fun e w' => e = .returned (.int .u8 0) ∧ w' = w := by
  go_enter Try.func9, Try.ntmps9
  go_wp2_with fail
  go_ret
  exact ⟨rfl, rfl⟩

set_option maxHeartbeats 1000000 in
theorem full1 (x : Addr) (m cap : Nat) (B : Nat → Int) (w : World) (h : BytesAt w (.slice (some x) m cap) m B) (hm : m ≤ 1048576) (hB : ∀ j, 0 ≤ B j ∧ B j ≤ 255) (hN : need (B 0) = 1) (hf0 : 0 ≤ B 0) (hf1 : B 0 ≤ 63) (hn : 1 ≤ m) :
    Calls Try.prog 3 #[.slice (some x) m cap] w (Yes w) := by
  have hnn := fun (w : World) (a : Option Addr) (n c n' c' : Nat) => run_neq_slice_nil_any (P := Try.prog) w 22 5 a n c n' c' Try.underlying22
  have hmk := run_make_row' (P := Try.prog) 22 5 (.int .u8 0) 1 Try.underlying22 info5 rfl .i64 .i64 m (by omega) (by omega)
  obtain ⟨u, W1, hcp, hb1, hbel⟩ := copy_run x m cap B w h
  have hcp := hcp 3
  have R1 : Hid (Calls Try.prog 7 #[.slice (some ⟨w.heap.size, 0, none⟩) m m] W1 fun e w' => e = .returned (.tuple #[.int .u64 (val B 0), .int .i64 1]) ∧ w' = W1) := by
    have := read_val _ m m B W1 hb1 (by omega) hB (by omega)
    rw [hN] at this
    exact this
  have Z : Hid (Calls Try.prog 8 #[.int .u8 (B 0)] W1 fun e w' => e = .returned (.int .i64 1) ∧ w' = W1) := by
    have := zzNeed (B 0) W1 (hB 0).1 (hB 0).2
    rw [hN] at this
    exact this
  have hz : ((m : Int) == 0) = false := beq_eq_false_iff_ne.2 (by omega)
  have hV := val_bd B hB 0
  have hV0 : 0 ≤ val B 0 := hV.1
  have hV1 : val B 0 < 64 := hV.2
  have hsh : val B 0 / 64 = 0 := by omega
  have E0 : Hid (bits .or .u8 (val B 0) 0 = B 0) := by
    show _ = _
    rw [dec_1_0 B hB]
    exact or_lenbits (B 0) 0 (by omega) (by omega) (by omega)
  have c0 := own_cells hb1 0 (by omega)
  clear hV hb1 hB h hN hf0 hf1
  generalize val B 0 = V at *
  generalize B 0 = f0 at *
  go_enter Try.func3, Try.ntmps3
  go_wp2_with fail
  refine (guard6_yes _ _ _ _ hm).mono ?_
  rintro e w1 ⟨rfl, rfl⟩
  go_wp2_with fail
  refine R1.out.mono ?_
  rintro e w2 ⟨rfl, rfl⟩
  go_wp2_with fail
  refine Z.out.mono ?_
  rintro e w2 ⟨rfl, rfl⟩
  go_wp2_with fail
  go_loop [7, 8] (fun i _ => ∃ k : Nat, k ≤ 1 ∧ i = .int .i64 k) (fun i _ => 1 - (intOf i).toNat)
  case atStart => exact ⟨0, by omega, rfl⟩
  case round =>
    obtain ⟨k, hk, rfl⟩ := hrel
    clear hcp hnn hmk R1 Z
    have hk' : k = 0 ∨ k = 1 := by omega
    rcases hk' with rfl | rfl
    · go_wp2_with fail
      refine (lenbits1 _).mono ?_
      rintro e w3 ⟨rfl, rfl⟩
      have e0 := E0.out
      go_wp2_with fail
      exact ⟨⟨1, by omega, rfl⟩, by simp [intOf]⟩
    · go_wp2_with fail
      go_ret
      exact ⟨rfl, hbel⟩

theorem lenbits2 (w : World) : Calls Try.prog 9 #[.int .i64 2] w fun e w' => e = .returned (.int .u8 64) ∧ w' = w := by
  go_enter Try.func9, Try.ntmps9
  go_wp2_with fail
  go_ret
  exact ⟨rfl, rfl⟩

set_option maxHeartbeats 1000000 in
theorem full2 (x : Addr) (m cap : Nat) (B : Nat → Int) (w : World) (h : BytesAt w (.slice (some x) m cap) m B) (hm : m ≤ 1048576) (hB : ∀ j, 0 ≤ B j ∧ B j ≤ 255) (hN : need (B 0) = 2) (hf0 : 64 ≤ B 0) (hf1 : B 0 ≤ 127) (hn : 2 ≤ m) :
    Calls Try.prog 3 #[.slice (some x) m cap] w (Yes w) := by
  have hnn := fun (w : World) (a : Option Addr) (n c n' c' : Nat) => run_neq_slice_nil_any (P := Try.prog) w 22 5 a n c n' c' Try.underlying22
  have hmk := run_make_row' (P := Try.prog) 22 5 (.int .u8 0) 1 Try.underlying22 info5 rfl .i64 .i64 m (by omega) (by omega)
  obtain ⟨u, W1, hcp, hb1, hbel⟩ := copy_run x m cap B w h
  have hcp := hcp 3
  have R1 : Hid (Calls Try.prog 7 #[.slice (some ⟨w.heap.size, 0, none⟩) m m] W1 fun e w' => e = .returned (.tuple #[.int .u64 (val B 1), .int .i64 2]) ∧ w' = W1) := by
    have := read_val _ m m B W1 hb1 (by omega) hB (by omega)
    rw [hN] at this
    exact this
  have Z : Hid (Calls Try.prog 8 #[.int .u8 (B 0)] W1 fun e w' => e = .returned (.int .i64 2) ∧ w' = W1) := by
    have := zzNeed (B 0) W1 (hB 0).1 (hB 0).2
    rw [hN] at this
    exact this
  have hz : ((m : Int) == 0) = false := beq_eq_false_iff_ne.2 (by omega)
  have hV := val_bd B hB 1
  have hV0 : 0 ≤ val B 1 := hV.1
  have hV1 : val B 1 < 16384 := hV.2
  have hsh : val B 1 / 16384 = 0 := by omega
  have E0 : Hid (bits .or .u8 (val B 1 / 256) 64 = B 0) := by
    show _ = _
    rw [dec_2_0 B hB]
    exact or_lenbits (B 0) 1 (by omega) (by omega) (by omega)
  have c0 := own_cells hb1 0 (by omega)
  have c1 := own_cells hb1 1 (by omega)
  have e1 := dec_2_1 B hB
  clear hV hb1 hB h hN hf0 hf1
  generalize val B 1 = V at *
  generalize B 0 = f0 at *
  generalize B 1 = f1 at *
  go_enter Try.func3, Try.ntmps3
  go_wp2_with fail
  refine (guard6_yes _ _ _ _ hm).mono ?_
  rintro e w1 ⟨rfl, rfl⟩
  go_wp2_with fail
  refine R1.out.mono ?_
  rintro e w2 ⟨rfl, rfl⟩
  go_wp2_with fail
  refine Z.out.mono ?_
  rintro e w2 ⟨rfl, rfl⟩
  go_wp2_with fail
  go_loop [7, 8] (fun i _ => ∃ k : Nat, k ≤ 2 ∧ i = .int .i64 k) (fun i _ => 2 - (intOf i).toNat)
  case atStart => exact ⟨0, by omega, rfl⟩
  case round =>
    obtain ⟨k, hk, rfl⟩ := hrel
    clear hcp hnn hmk R1 Z
    have hk' : k = 0 ∨ k = 1 ∨ k = 2 := by omega
    rcases hk' with rfl | rfl | rfl
    · go_wp2_with fail
      refine (lenbits2 _).mono ?_
      rintro e w3 ⟨rfl, rfl⟩
      have e0 := E0.out
      go_wp2_with fail
      exact ⟨⟨1, by omega, rfl⟩, by simp [intOf]⟩
    · go_wp2_with fail
      exact ⟨⟨2, by omega, rfl⟩, by simp [intOf]⟩
    · go_wp2_with fail
      go_ret
      exact ⟨rfl, hbel⟩

theorem lenbits4 (w : World) : Calls Try.prog 9 #[.int .i64 4] w fun e w' => e = .returned (.int .u8 128) ∧ w' = w := by
  go_enter Try.func9, Try.ntmps9
  go_wp2_with fail
  go_ret
  exact ⟨rfl, rfl⟩

set_option maxHeartbeats 1000000 in
theorem full4 (x : Addr) (m cap : Nat) (B : Nat → Int) (w : World) (h : BytesAt w (.slice (some x) m cap) m B) (hm : m ≤ 1048576) (hB : ∀ j, 0 ≤ B j ∧ B j ≤ 255) (hN : need (B 0) = 4) (hf0 : 128 ≤ B 0) (hf1 : B 0 ≤ 191) (hn : 4 ≤ m) :
    Calls Try.prog 3 #[.slice (some x) m cap] w (Yes w) := by
  have hnn := fun (w : World) (a : Option Addr) (n c n' c' : Nat) => run_neq_slice_nil_any (P := Try.prog) w 22 5 a n c n' c' Try.underlying22
  have hmk := run_make_row' (P := Try.prog) 22 5 (.int .u8 0) 1 Try.underlying22 info5 rfl .i64 .i64 m (by omega) (by omega)
  obtain ⟨u, W1, hcp, hb1, hbel⟩ := copy_run x m cap B w h
  have hcp := hcp 3
  have R1 : Hid (Calls Try.prog 7 #[.slice (some ⟨w.heap.size, 0, none⟩) m m] W1 fun e w' => e = .returned (.tuple #[.int .u64 (val B 3), .int .i64 4]) ∧ w' = W1) := by
    have := read_val _ m m B W1 hb1 (by omega) hB (by omega)
    rw [hN] at this
    exact this
  have Z : Hid (Calls Try.prog 8 #[.int .u8 (B 0)] W1 fun e w' => e = .returned (.int .i64 4) ∧ w' = W1) := by
    have := zzNeed (B 0) W1 (hB 0).1 (hB 0).2
    rw [hN] at this
    exact this
  have hz : ((m : Int) == 0) = false := beq_eq_false_iff_ne.2 (by omega)
  have hV := val_bd B hB 3
  have hV0 : 0 ≤ val B 3 := hV.1
  have hV1 : val B 3 < 1073741824 := hV.2
  have hsh : val B 3 / 1073741824 = 0 := by omega
  have E0 : Hid (bits .or .u8 (val B 3 / 16777216) 128 = B 0) := by
    show _ = _
    rw [dec_4_0 B hB]
    exact or_lenbits (B 0) 2 (by omega) (by omega) (by omega)
  have c0 := own_cells hb1 0 (by omega)
  have c1 := own_cells hb1 1 (by omega)
  have c2 := own_cells hb1 2 (by omega)
  have c3 := own_cells hb1 3 (by omega)
  have e1 := dec_4_1 B hB
  have e2 := dec_4_2 B hB
  have e3 := dec_4_3 B hB
  clear hV hb1 hB h hN hf0 hf1
  generalize val B 3 = V at *
  generalize B 0 = f0 at *
  generalize B 1 = f1 at *
  generalize B 2 = f2 at *
  generalize B 3 = f3 at *
  go_enter Try.func3, Try.ntmps3
  go_wp2_with fail
  refine (guard6_yes _ _ _ _ hm).mono ?_
  rintro e w1 ⟨rfl, rfl⟩
  go_wp2_with fail
  refine R1.out.mono ?_
  rintro e w2 ⟨rfl, rfl⟩
  go_wp2_with fail
  refine Z.out.mono ?_
  rintro e w2 ⟨rfl, rfl⟩
  go_wp2_with fail
  go_loop [7, 8] (fun i _ => ∃ k : Nat, k ≤ 4 ∧ i = .int .i64 k) (fun i _ => 4 - (intOf i).toNat)
  case atStart => exact ⟨0, by omega, rfl⟩
  case round =>
    obtain ⟨k, hk, rfl⟩ := hrel
    clear hcp hnn hmk R1 Z
    have hk' : k = 0 ∨ k = 1 ∨ k = 2 ∨ k = 3 ∨ k = 4 := by omega
    rcases hk' with rfl | rfl | rfl | rfl | rfl
    · go_wp2_with fail
      refine (lenbits4 _).mono ?_
      rintro e w3 ⟨rfl, rfl⟩
      have e0 := E0.out
      go_wp2_with fail
      exact ⟨⟨1, by omega, rfl⟩, by simp [intOf]⟩
    · go_wp2_with fail
      exact ⟨⟨2, by omega, rfl⟩, by simp [intOf]⟩
    · go_wp2_with fail
      exact ⟨⟨3, by omega, rfl⟩, by simp [intOf]⟩
    · go_wp2_with fail
      exact ⟨⟨4, by omega, rfl⟩, by simp [intOf]⟩
    · go_wp2_with fail
      go_ret
      exact ⟨rfl, hbel⟩

theorem lenbits8 (w : World) : Calls Try.prog 9 #[.int .i64 8] w fun e w' => e = .returned (.int .u8 192) ∧ w' = w := by
  go_enter Try.func9, Try.ntmps9
  go_wp2_with fail
  go_ret
  exact ⟨rfl, rfl⟩

set_option maxHeartbeats 1000000 in
theorem full8 (x : Addr) (m cap : Nat) (B : Nat → Int) (w : World) (h : BytesAt w (.slice (some x) m cap) m B) (hm : m ≤ 1048576) (hB : ∀ j, 0 ≤ B j ∧ B j ≤ 255) (hN : need (B 0) = 8) (hf0 : 192 ≤ B 0) (hf1 : B 0 ≤ 255) (hn : 8 ≤ m) :
    Calls Try.prog 3 #[.slice (some x) m cap] w (Yes w) := by
  have hnn := fun (w : World) (a : Option Addr) (n c n' c' : Nat) => run_neq_slice_nil_any (P := Try.prog) w 22 5 a n c n' c' Try.underlying22
  have hmk := run_make_row' (P := Try.prog) 22 5 (.int .u8 0) 1 Try.underlying22 info5 rfl .i64 .i64 m (by omega) (by omega)
  obtain ⟨u, W1, hcp, hb1, hbel⟩ := copy_run x m cap B w h
  have hcp := hcp 3
  have R1 : Hid (Calls Try.prog 7 #[.slice (some ⟨w.heap.size, 0, none⟩) m m] W1 fun e w' => e = .returned (.tuple #[.int .u64 (val B 7), .int .i64 8]) ∧ w' = W1) := by
    have := read_val _ m m B W1 hb1 (by omega) hB (by omega)
    rw [hN] at this
    exact this
  have Z : Hid (Calls Try.prog 8 #[.int .u8 (B 0)] W1 fun e w' => e = .returned (.int .i64 8) ∧ w' = W1) := by
    have := zzNeed (B 0) W1 (hB 0).1 (hB 0).2
    rw [hN] at this
    exact this
  have hz : ((m : Int) == 0) = false := beq_eq_false_iff_ne.2 (by omega)
  have hV := val_bd B hB 7
  have hV0 : 0 ≤ val B 7 := hV.1
  have hV1 : val B 7 < 4611686018427387904 := hV.2
  have hsh : val B 7 / 4611686018427387904 = 0 := by omega
  have E0 : Hid (bits .or .u8 (val B 7 / 72057594037927936) 192 = B 0) := by
    show _ = _
    rw [dec_8_0 B hB]
    exact or_lenbits (B 0) 3 (by omega) (by omega) (by omega)
  have c0 := own_cells hb1 0 (by omega)
  have c1 := own_cells hb1 1 (by omega)
  have c2 := own_cells hb1 2 (by omega)
  have c3 := own_cells hb1 3 (by omega)
  have c4 := own_cells hb1 4 (by omega)
  have c5 := own_cells hb1 5 (by omega)
  have c6 := own_cells hb1 6 (by omega)
  have c7 := own_cells hb1 7 (by omega)
  have e1 := dec_8_1 B hB
  have e2 := dec_8_2 B hB
  have e3 := dec_8_3 B hB
  have e4 := dec_8_4 B hB
  have e5 := dec_8_5 B hB
  have e6 := dec_8_6 B hB
  have e7 := dec_8_7 B hB
  clear hV hb1 hB h hN hf0 hf1
  generalize val B 7 = V at *
  generalize B 0 = f0 at *
  generalize B 1 = f1 at *
  generalize B 2 = f2 at *
  generalize B 3 = f3 at *
  generalize B 4 = f4 at *
  generalize B 5 = f5 at *
  generalize B 6 = f6 at *
  generalize B 7 = f7 at *
  go_enter Try.func3, Try.ntmps3
  go_wp2_with fail
  refine (guard6_yes _ _ _ _ hm).mono ?_
  rintro e w1 ⟨rfl, rfl⟩
  go_wp2_with fail
  refine R1.out.mono ?_
  rintro e w2 ⟨rfl, rfl⟩
  go_wp2_with fail
  refine Z.out.mono ?_
  rintro e w2 ⟨rfl, rfl⟩
  go_wp2_with fail
  go_loop [7, 8] (fun i _ => ∃ k : Nat, k ≤ 8 ∧ i = .int .i64 k) (fun i _ => 8 - (intOf i).toNat)
  case atStart => exact ⟨0, by omega, rfl⟩
  case round =>
    obtain ⟨k, hk, rfl⟩ := hrel
    clear hcp hnn hmk R1 Z
    have hk' : k = 0 ∨ k = 1 ∨ k = 2 ∨ k = 3 ∨ k = 4 ∨ k = 5 ∨ k = 6 ∨ k = 7 ∨ k = 8 := by omega
    rcases hk' with rfl | rfl | rfl | rfl | rfl | rfl | rfl | rfl | rfl
    · go_wp2_with fail
      refine (lenbits8 _).mono ?_
      rintro e w3 ⟨rfl, rfl⟩
      have e0 := E0.out
      go_wp2_with fail
      exact ⟨⟨1, by omega, rfl⟩, by simp [intOf]⟩
    · go_wp2_with fail
      exact ⟨⟨2, by omega, rfl⟩, by simp [intOf]⟩
    · go_wp2_with fail
      exact ⟨⟨3, by omega, rfl⟩, by simp [intOf]⟩
    · go_wp2_with fail
      exact ⟨⟨4, by omega, rfl⟩, by simp [intOf]⟩
    · go_wp2_with fail
      exact ⟨⟨5, by omega, rfl⟩, by simp [intOf]⟩
    · go_wp2_with fail
      exact ⟨⟨6, by omega, rfl⟩, by simp [intOf]⟩
    · go_wp2_with fail
      exact ⟨⟨7, by omega, rfl⟩, by simp [intOf]⟩
    · go_wp2_with fail
      exact ⟨⟨8, by omega, rfl⟩, by simp [intOf]⟩
    · go_wp2_with fail
      go_ret
      exact ⟨rfl, hbel⟩

theorem walk (a : Option Addr) (m cap : Nat) (B : Nat → Int) (w : World) (h : BytesAt w (.slice a m cap) m B) (hB : ∀ j, 0 ≤ B j ∧ B j ≤ 255) : Calls Try.prog 3 #[.slice a m cap] w (Yes w) := by
  by_cases hm : 1048576 < m
  · exact big a m cap w hm
  cases a with
  | none =>
    have hm0 : m = 0 := by
      obtain ⟨a', cap', hv, _, h⟩ := h
      cases hv
      rcases h with h | ⟨_, _, h, _⟩
      · exact h
      · cases h
    subst hm0
    exact nil cap w
  | some x =>
    by_cases hm0 : m = 0
    · subst hm0
      exact some_zero x cap B w h hB
    by_cases hs : m < need (B 0)
    · exact some_short x m cap B w h (by omega) hB (by omega) hs
    rcases need_cases (B 0) (hB 0).1 (hB 0).2 with ⟨l, r, e⟩ | ⟨l, r, e⟩ | ⟨l, r, e⟩ | ⟨l, r, e⟩
    · exact full1 x m cap B w h (by omega) hB e l r (by omega)
    · exact full2 x m cap B w h (by omega) hB e l r (by omega)
    · exact full4 x m cap B w h (by omega) hB e l r (by omega)
    · exact full8 x m cap B w h (by omega) hB e l r (by omega)

end Go.Proofs.Qxb6617825a.Decodes
