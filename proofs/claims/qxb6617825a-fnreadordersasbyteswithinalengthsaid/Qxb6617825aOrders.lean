/-
  The walk of FnReadOrdersAsBytesWithinALength.
-/
import Derived.Test.Qxb6617825aRefuses
import Derived.Test.Qxb6617825aPlain3
import Derived.Deep.RegionHeld3
import Derived.Deep.DrawnRows
namespace Go.Proofs.Qxb6617825a.Orders
open Go.RowKit Go.Deep Go.Proofs.Qxb6617825a.Plain Go.Proofs.Qxb6617825a.Plain3 Go.Proofs.Qxb6617825a.ReadW Go.Proofs.Qxb6617825a.CopyW Go.Proofs.Qxb6617825a.Refuses
attribute [local go_sem ↓] Go.wp_at_zero Go.wp_at_succ

/-- The cells of a copy that starts at its block's head. -/
theorem own_cells {w : World} {g m cap : Nat} {B : Nat → Int} (h : BytesAt w (.slice (some ⟨g, 0, none⟩) m cap) m B) (j : Nat) (hj : j < m) : w.cell? ⟨g, j, none⟩ = some (.int .u8 (B j)) := by
  obtain ⟨a', cap', hv, _, h⟩ := h
  cases hv
  rcases h with h0 | ⟨b, off, hx, h⟩
  · omega
  cases hx
  have := h j hj
  rwa [Nat.zero_add] at this

theorem guard_yes (a b : Option Addr) (m n c d : Nat) (w : World) (h : m + n ≤ 1048576) : Calls Try.prog 11 #[.slice a m c, .slice b n d] w fun e w' => e = .returned (.bool true) ∧ w' = w := by
  have h1 : (m : Int) + (n : Int) ≤ 1048576 := by omega
  go_enter Try.func11, Try.ntmps11
  go_wp2_with fail
  go_ret
  exact ⟨rfl, rfl⟩

theorem guard_no (a b : Option Addr) (m n c d : Nat) (w : World) (h : 1048576 < m + n) : Calls Try.prog 11 #[.slice a m c, .slice b n d] w fun e w' => e = .returned (.bool false) ∧ w' = w := by
  by_cases h1 : 1048576 < m
  · clear h
    go_enter Try.func11, Try.ntmps11
    go_wp2_with fail
    go_ret
    exact ⟨rfl, rfl⟩
  · by_cases h2 : 1048576 < n
    · clear h
      go_enter Try.func11, Try.ntmps11
      go_wp2_with fail
      go_ret
      exact ⟨rfl, rfl⟩
    · have h3 : 1048576 < (m : Int) + (n : Int) := by omega
      clear h
      go_enter Try.func11, Try.ntmps11
      go_wp2_with fail
      go_ret
      exact ⟨rfl, rfl⟩

/-- What zzCompare answers; nothing that was there turns. -/
def Cmp (r : Int) (w : World) (e : Ending) (w' : World) : Prop := e = .returned (.int .i64 r) ∧ Below w.heap.size w w'

set_option maxHeartbeats 400000 in
theorem compare (g1 g2 m n N : Nat) (A B : Nat → Int) (w : World) (h1 : ∀ j, j < m → w.cell? ⟨g1, j, none⟩ = some (.int .u8 (A j))) (h2 : ∀ j, j < n → w.cell? ⟨g2, j, none⟩ = some (.int .u8 (B j))) (hm : N ≤ m) (hn : N ≤ n) (hM : m ≤ 1048576) (_hN : n ≤ 1048576) :
    Calls Try.prog 12 #[.slice (some ⟨g1, 0, none⟩) m m, .slice (some ⟨g2, 0, none⟩) n n, .int .i64 (N : Int)] w (Cmp (cmpB A B N) w) := by
  have H1 : Hid (∀ j, j < m → w.cell? ⟨g1, j, none⟩ = some (.int .u8 (A j))) := h1
  have H2 : Hid (∀ j, j < n → w.cell? ⟨g2, j, none⟩ = some (.int .u8 (B j))) := h2
  clear h1 h2
  go_enter Try.func12, Try.ntmps12
  go_wp2_with fail
  go_loopw [7] (fun i wr => ∃ k : Nat, k ≤ N ∧ i = .int .i64 k ∧ Below w.heap.size w wr ∧ Hid (cmpB A B k = 0)) (fun i _ => N - (intOf i).toNat)
  case atStart => exact ⟨0, Nat.zero_le _, rfl, Below.refl _ _, rfl⟩
  case round =>
    obtain ⟨k, hk, rfl, hbw, h0⟩ := hrel
    by_cases hlt : k < N
    · have s1 := keep hbw (H1.out k (by omega))
      have s2 := keep hbw (H2.out k (by omega))
      have i0 : (0 : Int) ≤ (k : Int) := by omega
      have i1 : (k : Int) < (m : Int) := by omega
      have i2 : (k : Int) < (n : Int) := by omega
      have i3 : k < m := by omega
      have i4 : k < n := by omega
      by_cases hab : A k < B k
      · have HR : Hid (cmpB A B N = -1) := cmpB_lt h0.out hab hlt
        go_wp2_with fail
        go_region_held3 (fun w' => w'.cell? ⟨g1, k, none⟩ = some (.int .u8 (A k)) ∧ w'.cell? ⟨g2, k, none⟩ = some (.int .u8 (B k))) (exact ⟨s1, s2⟩) (fail)
        go_wp2_with fail
        go_ret
        exact ⟨by rw [HR.out]; rfl, hbw.drew⟩
      · by_cases hba : B k < A k
        · have HR : Hid (cmpB A B N = 1) := cmpB_gt h0.out hba hlt
          go_wp2_with fail
          go_region_held3 (fun w' => w'.cell? ⟨g1, k, none⟩ = some (.int .u8 (A k)) ∧ w'.cell? ⟨g2, k, none⟩ = some (.int .u8 (B k))) (exact ⟨s1, s2⟩) (fail)
          go_wp2_with fail
          go_region_held3 (fun w' => w'.cell? ⟨g1, k, none⟩ = some (.int .u8 (A k)) ∧ w'.cell? ⟨g2, k, none⟩ = some (.int .u8 (B k))) (exact ⟨s1, s2⟩) (fail)
          go_wp2_with fail
          go_ret
          exact ⟨by rw [HR.out]; rfl, hbw.drew.drew⟩
        · have HR : Hid (cmpB A B (k + 1) = 0) := cmpB_eq h0.out hab hba
          go_wp2_with fail
          go_region_held3 (fun w' => w'.cell? ⟨g1, k, none⟩ = some (.int .u8 (A k)) ∧ w'.cell? ⟨g2, k, none⟩ = some (.int .u8 (B k))) (exact ⟨s1, s2⟩) (fail)
          go_wp2_with fail
          go_region_held3 (fun w' => w'.cell? ⟨g1, k, none⟩ = some (.int .u8 (A k)) ∧ w'.cell? ⟨g2, k, none⟩ = some (.int .u8 (B k))) (exact ⟨s1, s2⟩) (fail)
          go_wp2_with fail
          exact ⟨⟨k + 1, by omega, by go_num, hbw.drew.drew, HR⟩, by simp [intOf]; omega⟩
    · have hkN : k = N := by omega
      have HR : Hid (cmpB A B N = 0) := hkN ▸ h0
      clear hkN
      go_wp2_with fail
      go_ret
      exact ⟨by rw [HR.out]; rfl, hbw⟩

theorem big (a b : Option Addr) (m n c d : Nat) (w : World) (h : 1048576 < m + n) : Calls Try.prog 5 #[.slice a m c, .slice b n d] w (Yes w) := by
  go_enter Try.func5, Try.ntmps5
  go_wp2_with fail
  refine (guard_no _ _ _ _ _ _ _ h).mono ?_
  rintro e w1 ⟨rfl, rfl⟩
  go_wp2_with fail
  go_ret
  exact ⟨rfl, Below.refl _ _⟩

theorem empty (a b : Option Addr) (m n c d : Nat) (w : World) (h : m + n ≤ 1048576) (h0 : m = 0 ∨ n = 0) : Calls Try.prog 5 #[.slice a m c, .slice b n d] w (Yes w) := by
  by_cases hz : m = 0
  · have z1 : ((m : Int) == 0) = true := beq_iff_eq.2 (by omega)
    have hm1 : m ≤ 1048576 := by omega
    have hn1 : n ≤ 1048576 := by omega
    have HH : Hid (m + n ≤ 1048576) := h
    clear h0 hz h
    go_enter Try.func5, Try.ntmps5
    go_wp2_with fail
    refine (guard_yes _ _ _ _ _ _ _ HH.out).mono ?_
    rintro e w1 ⟨rfl, rfl⟩
    go_wp2_with fail
    go_ret
    exact ⟨rfl, Below.refl _ _⟩
  · have z1 : ((m : Int) == 0) = false := beq_eq_false_iff_ne.2 (by omega)
    have z2 : ((n : Int) == 0) = true := beq_iff_eq.2 (by omega)
    have hm1 : m ≤ 1048576 := by omega
    have hn1 : n ≤ 1048576 := by omega
    have HH : Hid (m + n ≤ 1048576) := h
    clear h0 hz h
    go_enter Try.func5, Try.ntmps5
    go_wp2_with fail
    refine (guard_yes _ _ _ _ _ _ _ HH.out).mono ?_
    rintro e w1 ⟨rfl, rfl⟩
    go_wp2_with fail
    go_ret
    exact ⟨rfl, Below.refl _ _⟩

set_option maxHeartbeats 1000000 in
theorem parted (x y : Addr) (m n c d : Nat) (A B : Nat → Int) (w : World) (ha : BytesAt w (.slice (some x) m c) m A) (hb : BytesAt w (.slice (some y) n d) n B) (h : m + n ≤ 1048576) (hm0 : 0 < m) (hn0 : 0 < n) (hA : ∀ j, 0 ≤ A j ∧ A j ≤ 255) (hB : ∀ j, 0 ≤ B j ∧ B j ≤ 255) (hne : need (A 0) ≠ need (B 0)) :
    Calls Try.prog 5 #[.slice (some x) m c, .slice (some y) n d] w (Yes w) := by
  have hnn := fun (w : World) (a : Option Addr) (n c n' c' : Nat) => run_neq_slice_nil_any (P := Try.prog) w 22 5 a n c n' c' Try.underlying22
  have hmk1 := run_make_row' (P := Try.prog) 22 5 (.int .u8 0) 1 Try.underlying22 info5 rfl .i64 .i64 m (by omega) (by omega)
  have hmk2 := run_make_row' (P := Try.prog) 22 5 (.int .u8 0) 1 Try.underlying22 info5 rfl .i64 .i64 n (by omega) (by omega)
  obtain ⟨u1, W1, hcp1, ha1, hbel1⟩ := copy_run x m c A w ha
  obtain ⟨u2, W2, hcp2, hb2, hbel2⟩ := copy_run y n d B W1 (hb.below hbel1)
  have hcp1 := hcp1 3
  have hcp2 := hcp2 3
  have ha2 := ha1.below hbel2
  have HBEL : Hid (Below w.heap.size w W2) := hbel1.trans (hbel2.mono hbel1.size)
  have za : ((m : Int) == 0) = false := beq_eq_false_iff_ne.2 (by omega)
  have zb : ((n : Int) == 0) = false := beq_eq_false_iff_ne.2 (by omega)
  have hm1 : m ≤ 1048576 := by omega
  have hn1 : n ≤ 1048576 := by omega
  have HH : Hid (m + n ≤ 1048576) := h
  have ca := own_cells ha2 0 hm0
  have cb := own_cells hb2 0 hn0
  have ZA : Hid (Calls Try.prog 8 #[.int .u8 (A 0)] W2 fun e w' => e = .returned (.int .i64 (need (A 0))) ∧ w' = W2) := zzNeed _ _ (hA 0).1 (hA 0).2
  have ZB : Hid (Calls Try.prog 8 #[.int .u8 (B 0)] W2 fun e w' => e = .returned (.int .i64 (need (B 0))) ∧ w' = W2) := zzNeed _ _ (hB 0).1 (hB 0).2
  have hnb : ((need (B 0) : Int) != (need (A 0) : Int)) = true := by rw [bne_iff_ne]; omega
  clear ha1 hb2 ha2 ha hb h hA hB hbel1 hbel2 hne
  generalize need (A 0) = N1 at *
  generalize need (B 0) = N2 at *
  generalize A 0 = f at *
  generalize B 0 = g at *
  go_enter Try.func5, Try.ntmps5
  go_wp2_with fail
  refine (guard_yes _ _ _ _ _ _ _ HH.out).mono ?_
  rintro e w1 ⟨rfl, rfl⟩
  go_wp2_with fail
  refine ZA.out.mono ?_
  rintro e w3 ⟨rfl, rfl⟩
  go_wp2_with fail
  refine ZB.out.mono ?_
  rintro e w3 ⟨rfl, rfl⟩
  go_wp2_with fail
  go_ret
  exact ⟨rfl, HBEL.out⟩

set_option maxHeartbeats 1000000 in
theorem short_a (x y : Addr) (m n c d : Nat) (A B : Nat → Int) (w : World) (ha : BytesAt w (.slice (some x) m c) m A) (hb : BytesAt w (.slice (some y) n d) n B) (h : m + n ≤ 1048576) (hm0 : 0 < m) (hn0 : 0 < n) (hA : ∀ j, 0 ≤ A j ∧ A j ≤ 255) (hB : ∀ j, 0 ≤ B j ∧ B j ≤ 255) (hne : need (A 0) = need (B 0)) (hs : m < need (A 0)) :
    Calls Try.prog 5 #[.slice (some x) m c, .slice (some y) n d] w (Yes w) := by
  have hnn := fun (w : World) (a : Option Addr) (n c n' c' : Nat) => run_neq_slice_nil_any (P := Try.prog) w 22 5 a n c n' c' Try.underlying22
  have hmk1 := run_make_row' (P := Try.prog) 22 5 (.int .u8 0) 1 Try.underlying22 info5 rfl .i64 .i64 m (by omega) (by omega)
  have hmk2 := run_make_row' (P := Try.prog) 22 5 (.int .u8 0) 1 Try.underlying22 info5 rfl .i64 .i64 n (by omega) (by omega)
  obtain ⟨u1, W1, hcp1, ha1, hbel1⟩ := copy_run x m c A w ha
  obtain ⟨u2, W2, hcp2, hb2, hbel2⟩ := copy_run y n d B W1 (hb.below hbel1)
  have hcp1 := hcp1 3
  have hcp2 := hcp2 3
  have ha2 := ha1.below hbel2
  have HBEL : Hid (Below w.heap.size w W2) := hbel1.trans (hbel2.mono hbel1.size)
  have za : ((m : Int) == 0) = false := beq_eq_false_iff_ne.2 (by omega)
  have zb : ((n : Int) == 0) = false := beq_eq_false_iff_ne.2 (by omega)
  have hm1 : m ≤ 1048576 := by omega
  have hn1 : n ≤ 1048576 := by omega
  have HH : Hid (m + n ≤ 1048576) := h
  have ca := own_cells ha2 0 hm0
  have cb := own_cells hb2 0 hn0
  have ZA : Hid (Calls Try.prog 8 #[.int .u8 (A 0)] W2 fun e w' => e = .returned (.int .i64 (need (A 0))) ∧ w' = W2) := zzNeed _ _ (hA 0).1 (hA 0).2
  have ZB : Hid (Calls Try.prog 8 #[.int .u8 (B 0)] W2 fun e w' => e = .returned (.int .i64 (need (B 0))) ∧ w' = W2) := zzNeed _ _ (hB 0).1 (hB 0).2
  rw [← hne] at ZB
  clear ha1 hb2 ha2 ha hb h hA hB hbel1 hbel2 hne
  generalize need (A 0) = N1 at *
  generalize A 0 = f at *
  generalize B 0 = g at *
  go_enter Try.func5, Try.ntmps5
  go_wp2_with fail
  refine (guard_yes _ _ _ _ _ _ _ HH.out).mono ?_
  rintro e w1 ⟨rfl, rfl⟩
  go_wp2_with fail
  refine ZA.out.mono ?_
  rintro e w3 ⟨rfl, rfl⟩
  go_wp2_with fail
  refine ZB.out.mono ?_
  rintro e w3 ⟨rfl, rfl⟩
  go_wp2_with fail
  go_ret
  exact ⟨rfl, HBEL.out⟩

set_option maxHeartbeats 1000000 in
theorem short_b (x y : Addr) (m n c d : Nat) (A B : Nat → Int) (w : World) (ha : BytesAt w (.slice (some x) m c) m A) (hb : BytesAt w (.slice (some y) n d) n B) (h : m + n ≤ 1048576) (hm0 : 0 < m) (hn0 : 0 < n) (hA : ∀ j, 0 ≤ A j ∧ A j ≤ 255) (hB : ∀ j, 0 ≤ B j ∧ B j ≤ 255) (hne : need (A 0) = need (B 0)) (hl : need (A 0) ≤ m) (hs : n < need (A 0)) :
    Calls Try.prog 5 #[.slice (some x) m c, .slice (some y) n d] w (Yes w) := by
  have hnn := fun (w : World) (a : Option Addr) (n c n' c' : Nat) => run_neq_slice_nil_any (P := Try.prog) w 22 5 a n c n' c' Try.underlying22
  have hmk1 := run_make_row' (P := Try.prog) 22 5 (.int .u8 0) 1 Try.underlying22 info5 rfl .i64 .i64 m (by omega) (by omega)
  have hmk2 := run_make_row' (P := Try.prog) 22 5 (.int .u8 0) 1 Try.underlying22 info5 rfl .i64 .i64 n (by omega) (by omega)
  obtain ⟨u1, W1, hcp1, ha1, hbel1⟩ := copy_run x m c A w ha
  obtain ⟨u2, W2, hcp2, hb2, hbel2⟩ := copy_run y n d B W1 (hb.below hbel1)
  have hcp1 := hcp1 3
  have hcp2 := hcp2 3
  have ha2 := ha1.below hbel2
  have HBEL : Hid (Below w.heap.size w W2) := hbel1.trans (hbel2.mono hbel1.size)
  have za : ((m : Int) == 0) = false := beq_eq_false_iff_ne.2 (by omega)
  have zb : ((n : Int) == 0) = false := beq_eq_false_iff_ne.2 (by omega)
  have hm1 : m ≤ 1048576 := by omega
  have hn1 : n ≤ 1048576 := by omega
  have HH : Hid (m + n ≤ 1048576) := h
  have ca := own_cells ha2 0 hm0
  have cb := own_cells hb2 0 hn0
  have ZA : Hid (Calls Try.prog 8 #[.int .u8 (A 0)] W2 fun e w' => e = .returned (.int .i64 (need (A 0))) ∧ w' = W2) := zzNeed _ _ (hA 0).1 (hA 0).2
  have ZB : Hid (Calls Try.prog 8 #[.int .u8 (B 0)] W2 fun e w' => e = .returned (.int .i64 (need (B 0))) ∧ w' = W2) := zzNeed _ _ (hB 0).1 (hB 0).2
  rw [← hne] at ZB
  clear ha1 hb2 ha2 ha hb h hA hB hbel1 hbel2 hne
  generalize need (A 0) = N1 at *
  generalize A 0 = f at *
  generalize B 0 = g at *
  go_enter Try.func5, Try.ntmps5
  go_wp2_with fail
  refine (guard_yes _ _ _ _ _ _ _ HH.out).mono ?_
  rintro e w1 ⟨rfl, rfl⟩
  go_wp2_with fail
  refine ZA.out.mono ?_
  rintro e w3 ⟨rfl, rfl⟩
  go_wp2_with fail
  refine ZB.out.mono ?_
  rintro e w3 ⟨rfl, rfl⟩
  go_wp2_with fail
  go_ret
  exact ⟨rfl, HBEL.out⟩

set_option maxHeartbeats 1000000 in
theorem whole_lt (x y : Addr) (m n c d : Nat) (A B : Nat → Int) (w : World) (ha : BytesAt w (.slice (some x) m c) m A) (hb : BytesAt w (.slice (some y) n d) n B) (h : m + n ≤ 1048576) (hm0 : 0 < m) (hn0 : 0 < n) (hA : ∀ j, 0 ≤ A j ∧ A j ≤ 255) (hB : ∀ j, 0 ≤ B j ∧ B j ≤ 255) (hne : need (A 0) = need (B 0)) (hl : need (A 0) ≤ m) (hr : need (A 0) ≤ n) (hv : val A (need (A 0) - 1) < val B (need (A 0) - 1)) (hc : cmpB A B (need (A 0)) = -1) :
    Calls Try.prog 5 #[.slice (some x) m c, .slice (some y) n d] w (Yes w) := by
  have hnn := fun (w : World) (a : Option Addr) (n c n' c' : Nat) => run_neq_slice_nil_any (P := Try.prog) w 22 5 a n c n' c' Try.underlying22
  have hmk1 := run_make_row' (P := Try.prog) 22 5 (.int .u8 0) 1 Try.underlying22 info5 rfl .i64 .i64 m (by omega) (by omega)
  have hmk2 := run_make_row' (P := Try.prog) 22 5 (.int .u8 0) 1 Try.underlying22 info5 rfl .i64 .i64 n (by omega) (by omega)
  obtain ⟨u1, W1, hcp1, ha1, hbel1⟩ := copy_run x m c A w ha
  obtain ⟨u2, W2, hcp2, hb2, hbel2⟩ := copy_run y n d B W1 (hb.below hbel1)
  have hcp1 := hcp1 3
  have hcp2 := hcp2 3
  have ha2 := ha1.below hbel2
  have HBEL : Hid (Below w.heap.size w W2) := hbel1.trans (hbel2.mono hbel1.size)
  have za : ((m : Int) == 0) = false := beq_eq_false_iff_ne.2 (by omega)
  have zb : ((n : Int) == 0) = false := beq_eq_false_iff_ne.2 (by omega)
  have hm1 : m ≤ 1048576 := by omega
  have hn1 : n ≤ 1048576 := by omega
  have HH : Hid (m + n ≤ 1048576) := h
  have ca := own_cells ha2 0 hm0
  have cb := own_cells hb2 0 hn0
  have ZA : Hid (Calls Try.prog 8 #[.int .u8 (A 0)] W2 fun e w' => e = .returned (.int .i64 (need (A 0))) ∧ w' = W2) := zzNeed _ _ (hA 0).1 (hA 0).2
  have ZB : Hid (Calls Try.prog 8 #[.int .u8 (B 0)] W2 fun e w' => e = .returned (.int .i64 (need (B 0))) ∧ w' = W2) := zzNeed _ _ (hB 0).1 (hB 0).2
  rw [← hne] at ZB
  have RA : Hid (Calls Try.prog 7 #[.slice (some ⟨w.heap.size, 0, none⟩) m m] W2 fun e w' => e = .returned (.tuple #[.int .u64 (val A (need (A 0) - 1)), .int .i64 (need (A 0))]) ∧ w' = W2) := read_val _ m m A W2 ha2 (by omega) hA (by omega)
  have RB : Hid (Calls Try.prog 7 #[.slice (some ⟨W1.heap.size, 0, none⟩) n n] W2 fun e w' => e = .returned (.tuple #[.int .u64 (val B (need (A 0) - 1)), .int .i64 (need (A 0))]) ∧ w' = W2) := by
    have := read_val _ n n B W2 hb2 (by omega) hB (by omega)
    rw [← hne] at this
    exact this
  have CC : Hid (Calls Try.prog 12 #[.slice (some ⟨w.heap.size, 0, none⟩) m m, .slice (some ⟨W1.heap.size, 0, none⟩) n n, .int .i64 ((need (A 0) : Nat) : Int)] W2 (Cmp (-1) W2)) := by
    have := compare w.heap.size W1.heap.size m n (need (A 0)) A B W2 (own_cells ha2) (own_cells hb2) hl hr hm1 hn1
    rw [hc] at this
    exact this
  clear ha1 hb2 ha2 ha hb h hA hB hbel1 hbel2 hne hc
  generalize val A (need (A 0) - 1) = V at *
  generalize val B (need (A 0) - 1) = U at *
  generalize need (A 0) = N1 at *
  generalize A 0 = f at *
  generalize B 0 = g at *
  have t1 : (V == U) = false := beq_eq_false_iff_ne.2 (by omega)
  have t2 : decide (U < V) = false := decide_eq_false (by omega)
  go_enter Try.func5, Try.ntmps5
  go_wp2_with fail
  refine (guard_yes _ _ _ _ _ _ _ HH.out).mono ?_
  rintro e w1 ⟨rfl, rfl⟩
  go_wp2_with fail
  refine ZA.out.mono ?_
  rintro e w3 ⟨rfl, rfl⟩
  go_wp2_with fail
  refine ZB.out.mono ?_
  rintro e w3 ⟨rfl, rfl⟩
  go_wp2_with fail
  refine RA.out.mono ?_
  rintro e w3 ⟨rfl, rfl⟩
  go_wp2_with fail
  refine RB.out.mono ?_
  rintro e w3 ⟨rfl, rfl⟩
  go_wp2_with fail
  refine CC.out.mono ?_
  rintro e w4 ⟨rfl, hb4⟩
  go_wp2_with fail
  go_ret
  exact ⟨rfl, HBEL.out.trans (hb4.mono HBEL.out.size)⟩

set_option maxHeartbeats 1000000 in
theorem whole_eq (x y : Addr) (m n c d : Nat) (A B : Nat → Int) (w : World) (ha : BytesAt w (.slice (some x) m c) m A) (hb : BytesAt w (.slice (some y) n d) n B) (h : m + n ≤ 1048576) (hm0 : 0 < m) (hn0 : 0 < n) (hA : ∀ j, 0 ≤ A j ∧ A j ≤ 255) (hB : ∀ j, 0 ≤ B j ∧ B j ≤ 255) (hne : need (A 0) = need (B 0)) (hl : need (A 0) ≤ m) (hr : need (A 0) ≤ n) (hv : val A (need (A 0) - 1) = val B (need (A 0) - 1)) (hc : cmpB A B (need (A 0)) = 0) :
    Calls Try.prog 5 #[.slice (some x) m c, .slice (some y) n d] w (Yes w) := by
  have hnn := fun (w : World) (a : Option Addr) (n c n' c' : Nat) => run_neq_slice_nil_any (P := Try.prog) w 22 5 a n c n' c' Try.underlying22
  have hmk1 := run_make_row' (P := Try.prog) 22 5 (.int .u8 0) 1 Try.underlying22 info5 rfl .i64 .i64 m (by omega) (by omega)
  have hmk2 := run_make_row' (P := Try.prog) 22 5 (.int .u8 0) 1 Try.underlying22 info5 rfl .i64 .i64 n (by omega) (by omega)
  obtain ⟨u1, W1, hcp1, ha1, hbel1⟩ := copy_run x m c A w ha
  obtain ⟨u2, W2, hcp2, hb2, hbel2⟩ := copy_run y n d B W1 (hb.below hbel1)
  have hcp1 := hcp1 3
  have hcp2 := hcp2 3
  have ha2 := ha1.below hbel2
  have HBEL : Hid (Below w.heap.size w W2) := hbel1.trans (hbel2.mono hbel1.size)
  have za : ((m : Int) == 0) = false := beq_eq_false_iff_ne.2 (by omega)
  have zb : ((n : Int) == 0) = false := beq_eq_false_iff_ne.2 (by omega)
  have hm1 : m ≤ 1048576 := by omega
  have hn1 : n ≤ 1048576 := by omega
  have HH : Hid (m + n ≤ 1048576) := h
  have ca := own_cells ha2 0 hm0
  have cb := own_cells hb2 0 hn0
  have ZA : Hid (Calls Try.prog 8 #[.int .u8 (A 0)] W2 fun e w' => e = .returned (.int .i64 (need (A 0))) ∧ w' = W2) := zzNeed _ _ (hA 0).1 (hA 0).2
  have ZB : Hid (Calls Try.prog 8 #[.int .u8 (B 0)] W2 fun e w' => e = .returned (.int .i64 (need (B 0))) ∧ w' = W2) := zzNeed _ _ (hB 0).1 (hB 0).2
  rw [← hne] at ZB
  have RA : Hid (Calls Try.prog 7 #[.slice (some ⟨w.heap.size, 0, none⟩) m m] W2 fun e w' => e = .returned (.tuple #[.int .u64 (val A (need (A 0) - 1)), .int .i64 (need (A 0))]) ∧ w' = W2) := read_val _ m m A W2 ha2 (by omega) hA (by omega)
  have RB : Hid (Calls Try.prog 7 #[.slice (some ⟨W1.heap.size, 0, none⟩) n n] W2 fun e w' => e = .returned (.tuple #[.int .u64 (val B (need (A 0) - 1)), .int .i64 (need (A 0))]) ∧ w' = W2) := by
    have := read_val _ n n B W2 hb2 (by omega) hB (by omega)
    rw [← hne] at this
    exact this
  have CC : Hid (Calls Try.prog 12 #[.slice (some ⟨w.heap.size, 0, none⟩) m m, .slice (some ⟨W1.heap.size, 0, none⟩) n n, .int .i64 ((need (A 0) : Nat) : Int)] W2 (Cmp (0) W2)) := by
    have := compare w.heap.size W1.heap.size m n (need (A 0)) A B W2 (own_cells ha2) (own_cells hb2) hl hr hm1 hn1
    rw [hc] at this
    exact this
  clear ha1 hb2 ha2 ha hb h hA hB hbel1 hbel2 hne hc
  generalize val A (need (A 0) - 1) = V at *
  generalize val B (need (A 0) - 1) = U at *
  generalize need (A 0) = N1 at *
  generalize A 0 = f at *
  generalize B 0 = g at *
  subst hv
  have t1 : (V == V) = true := by simp
  have t2 : ¬ V < V := by omega
  go_enter Try.func5, Try.ntmps5
  go_wp2_with fail
  refine (guard_yes _ _ _ _ _ _ _ HH.out).mono ?_
  rintro e w1 ⟨rfl, rfl⟩
  go_wp2_with fail
  refine ZA.out.mono ?_
  rintro e w3 ⟨rfl, rfl⟩
  go_wp2_with fail
  refine ZB.out.mono ?_
  rintro e w3 ⟨rfl, rfl⟩
  go_wp2_with fail
  refine RA.out.mono ?_
  rintro e w3 ⟨rfl, rfl⟩
  go_wp2_with fail
  refine RB.out.mono ?_
  rintro e w3 ⟨rfl, rfl⟩
  go_wp2_with fail
  refine CC.out.mono ?_
  rintro e w4 ⟨rfl, hb4⟩
  go_wp2_with fail
  go_ret
  exact ⟨rfl, HBEL.out.trans (hb4.mono HBEL.out.size)⟩

set_option maxHeartbeats 1000000 in
theorem whole_gt (x y : Addr) (m n c d : Nat) (A B : Nat → Int) (w : World) (ha : BytesAt w (.slice (some x) m c) m A) (hb : BytesAt w (.slice (some y) n d) n B) (h : m + n ≤ 1048576) (hm0 : 0 < m) (hn0 : 0 < n) (hA : ∀ j, 0 ≤ A j ∧ A j ≤ 255) (hB : ∀ j, 0 ≤ B j ∧ B j ≤ 255) (hne : need (A 0) = need (B 0)) (hl : need (A 0) ≤ m) (hr : need (A 0) ≤ n) (hv : val B (need (A 0) - 1) < val A (need (A 0) - 1)) (hc : cmpB A B (need (A 0)) = 1) :
    Calls Try.prog 5 #[.slice (some x) m c, .slice (some y) n d] w (Yes w) := by
  have hnn := fun (w : World) (a : Option Addr) (n c n' c' : Nat) => run_neq_slice_nil_any (P := Try.prog) w 22 5 a n c n' c' Try.underlying22
  have hmk1 := run_make_row' (P := Try.prog) 22 5 (.int .u8 0) 1 Try.underlying22 info5 rfl .i64 .i64 m (by omega) (by omega)
  have hmk2 := run_make_row' (P := Try.prog) 22 5 (.int .u8 0) 1 Try.underlying22 info5 rfl .i64 .i64 n (by omega) (by omega)
  obtain ⟨u1, W1, hcp1, ha1, hbel1⟩ := copy_run x m c A w ha
  obtain ⟨u2, W2, hcp2, hb2, hbel2⟩ := copy_run y n d B W1 (hb.below hbel1)
  have hcp1 := hcp1 3
  have hcp2 := hcp2 3
  have ha2 := ha1.below hbel2
  have HBEL : Hid (Below w.heap.size w W2) := hbel1.trans (hbel2.mono hbel1.size)
  have za : ((m : Int) == 0) = false := beq_eq_false_iff_ne.2 (by omega)
  have zb : ((n : Int) == 0) = false := beq_eq_false_iff_ne.2 (by omega)
  have hm1 : m ≤ 1048576 := by omega
  have hn1 : n ≤ 1048576 := by omega
  have HH : Hid (m + n ≤ 1048576) := h
  have ca := own_cells ha2 0 hm0
  have cb := own_cells hb2 0 hn0
  have ZA : Hid (Calls Try.prog 8 #[.int .u8 (A 0)] W2 fun e w' => e = .returned (.int .i64 (need (A 0))) ∧ w' = W2) := zzNeed _ _ (hA 0).1 (hA 0).2
  have ZB : Hid (Calls Try.prog 8 #[.int .u8 (B 0)] W2 fun e w' => e = .returned (.int .i64 (need (B 0))) ∧ w' = W2) := zzNeed _ _ (hB 0).1 (hB 0).2
  rw [← hne] at ZB
  have RA : Hid (Calls Try.prog 7 #[.slice (some ⟨w.heap.size, 0, none⟩) m m] W2 fun e w' => e = .returned (.tuple #[.int .u64 (val A (need (A 0) - 1)), .int .i64 (need (A 0))]) ∧ w' = W2) := read_val _ m m A W2 ha2 (by omega) hA (by omega)
  have RB : Hid (Calls Try.prog 7 #[.slice (some ⟨W1.heap.size, 0, none⟩) n n] W2 fun e w' => e = .returned (.tuple #[.int .u64 (val B (need (A 0) - 1)), .int .i64 (need (A 0))]) ∧ w' = W2) := by
    have := read_val _ n n B W2 hb2 (by omega) hB (by omega)
    rw [← hne] at this
    exact this
  have CC : Hid (Calls Try.prog 12 #[.slice (some ⟨w.heap.size, 0, none⟩) m m, .slice (some ⟨W1.heap.size, 0, none⟩) n n, .int .i64 ((need (A 0) : Nat) : Int)] W2 (Cmp (1) W2)) := by
    have := compare w.heap.size W1.heap.size m n (need (A 0)) A B W2 (own_cells ha2) (own_cells hb2) hl hr hm1 hn1
    rw [hc] at this
    exact this
  clear ha1 hb2 ha2 ha hb h hA hB hbel1 hbel2 hne hc
  generalize val A (need (A 0) - 1) = V at *
  generalize val B (need (A 0) - 1) = U at *
  generalize need (A 0) = N1 at *
  generalize A 0 = f at *
  generalize B 0 = g at *
  have t1 : (V == U) = false := beq_eq_false_iff_ne.2 (by omega)
  have t2 : decide (V < U) = false := decide_eq_false (by omega)
  go_enter Try.func5, Try.ntmps5
  go_wp2_with fail
  refine (guard_yes _ _ _ _ _ _ _ HH.out).mono ?_
  rintro e w1 ⟨rfl, rfl⟩
  go_wp2_with fail
  refine ZA.out.mono ?_
  rintro e w3 ⟨rfl, rfl⟩
  go_wp2_with fail
  refine ZB.out.mono ?_
  rintro e w3 ⟨rfl, rfl⟩
  go_wp2_with fail
  refine RA.out.mono ?_
  rintro e w3 ⟨rfl, rfl⟩
  go_wp2_with fail
  refine RB.out.mono ?_
  rintro e w3 ⟨rfl, rfl⟩
  go_wp2_with fail
  refine CC.out.mono ?_
  rintro e w4 ⟨rfl, hb4⟩
  go_wp2_with fail
  go_ret
  exact ⟨rfl, HBEL.out.trans (hb4.mono HBEL.out.size)⟩

theorem some_of {w : World} {a : Option Addr} {m cap : Nat} {B : Nat → Int} (h : BytesAt w (.slice a m cap) m B) (hm : 0 < m) : ∃ x, a = some x := by
  obtain ⟨a', cap', hv, _, h⟩ := h
  cases hv
  rcases h with h | ⟨b, off, h, _⟩
  · omega
  · exact ⟨_, h⟩

theorem walk (a b : Option Addr) (m n c d : Nat) (A B : Nat → Int) (w : World) (ha : BytesAt w (.slice a m c) m A) (hb : BytesAt w (.slice b n d) n B) (hA : ∀ j, 0 ≤ A j ∧ A j ≤ 255) (hB : ∀ j, 0 ≤ B j ∧ B j ≤ 255) :
    Calls Try.prog 5 #[.slice a m c, .slice b n d] w (Yes w) := by
  by_cases h : 1048576 < m + n
  · exact big a b m n c d w h
  by_cases h0 : m = 0 ∨ n = 0
  · exact empty a b m n c d w (by omega) h0
  obtain ⟨x, rfl⟩ := some_of ha (by omega)
  obtain ⟨y, rfl⟩ := some_of hb (by omega)
  by_cases hne : need (A 0) = need (B 0)
  · by_cases hl : m < need (A 0)
    · exact short_a x y m n c d A B w ha hb (by omega) (by omega) (by omega) hA hB hne hl
    by_cases hr : n < need (A 0)
    · exact short_b x y m n c d A B w ha hb (by omega) (by omega) (by omega) hA hB hne (by omega) hr
    have hq := div_of_need (hA 0).1 (hA 0).2 (hB 0).1 (hB 0).2 hne
    have hn1 : 1 ≤ need (A 0) := by unfold need; split; omega; split; omega; split <;> omega
    have ho := order A B hA hB hq (need (A 0) - 1)
    rw [show need (A 0) - 1 + 1 = need (A 0) by omega] at ho
    rcases ho with ⟨hv, hc⟩ | ⟨hv, hc⟩ | ⟨hv, hc⟩
    · exact whole_lt x y m n c d A B w ha hb (by omega) (by omega) (by omega) hA hB hne (by omega) (by omega) hv hc
    · exact whole_eq x y m n c d A B w ha hb (by omega) (by omega) (by omega) hA hB hne (by omega) (by omega) hv hc
    · exact whole_gt x y m n c d A B w ha hb (by omega) (by omega) (by omega) hA hB hne (by omega) (by omega) hv hc
  · exact parted x y m n c d A B w ha hb (by omega) (by omega) (by omega) hA hB hne

end Go.Proofs.Qxb6617825a.Orders
