/-
  Contracts: varint.Read and zzNeed.
-/
import Derived.Test.Qxb6617825aRows
import Derived.Test.Qxb6617825aPlain
import Derived.WalkKit
import Derived.WalkSpells
import Derived.WalkLawsBesides
namespace Go.Proofs.Qxb6617825a.ReadW
open Go.RowKit Go.Proofs.Qxb6617825a.Plain

/-- A slice of m bytes, byte j being 'B j'. -/
def BytesAt (w : World) (v : Value) (m : Nat) (B : Nat → Int) : Prop :=
  ∃ a cap, v = .slice a m cap ∧ m ≤ cap ∧ (m = 0 ∨ ∃ b off, a = some ⟨b, off, none⟩ ∧ ∀ j, j < m → w.cell? ⟨b, off + j, none⟩ = some (.int .u8 (B j)))

theorem keep {W w' : World} {a : Addr} {v : Value} (hb : Below W.heap.size W w') (h : W.cell? a = some v) : w'.cell? a = some v :=
  (hb.cell (World.block_lt_of_cell? W a h)).trans h

theorem BytesAt.below {w w' : World} {v : Value} {m : Nat} {B : Nat → Int} (h : BytesAt w v m B) (hb : Below w.heap.size w w') : BytesAt w' v m B := by
  obtain ⟨a, cap, hv, hc, h⟩ := h
  refine ⟨a, cap, hv, hc, ?_⟩
  rcases h with h | ⟨b, off, ha, h⟩
  · exact .inl h
  · exact .inr ⟨b, off, ha, fun j hj => keep hb (h j hj)⟩

theorem read_nil (a : Option Addr) (cap : Nat) (w : World) :
    Calls Try.prog 7 #[.slice a 0 cap] w fun e w' => e = .returned (.tuple #[.int .u64 0, .int .i64 0]) ∧ w' = w := by
  go_enter Try.func7, Try.ntmps7
  go_wp2_with fail
  go_ret2
  exact ⟨rfl, rfl⟩

set_option maxHeartbeats 400000 in
theorem read_full1 (b off m cap : Nat) (B : Nat → Int) (w : World) (hm : m ≤ 1048576) (hmc : m ≤ cap) (hB : ∀ j, 0 ≤ B j ∧ B j ≤ 255) (h : ∀ j, j < m → w.cell? ⟨b, off + j, none⟩ = some (.int .u8 (B j))) (hf0 : 0 ≤ B 0) (hf1 : B 0 ≤ 63) (hmn : 1 ≤ m) :
    Calls Try.prog 7 #[.slice (some ⟨b, off, none⟩) m cap] w fun e w' => e = .returned (.tuple #[.int .u64 (val B 0), .int .i64 1]) ∧ w' = w := by
  have c0 := h 0 (by omega)
  have hb0 := hB 0
  have hz : ((m : Int) == 0) = false := beq_eq_false_iff_ne.2 (by omega)
  have H : Hid (∀ j, j < m → w.cell? ⟨b, off + j, none⟩ = some (.int .u8 (B j))) := h
  have HB : Hid (∀ j, 0 ≤ B j ∧ B j ≤ 255) := hB
  clear h hB
  rw [Nat.add_zero] at c0
  have hq : B 0 / 64 = 0 := by omega
  have hcc : cap = 1 ∨ 1 < cap := by omega
  rcases hcc with hcc | hcc
  · subst hcc
    go_enter Try.func7, Try.ntmps7
    go_wp2_with fail
    go_loop [2, 5, 27] (fun v _ i => ∃ k : Nat, k ≤ 0 ∧ i = .int .i64 k ∧ v = .int .u64 (val B k)) (fun _ _ i => 0 - (intOf i).toNat)
    case atStart => exact ⟨0, by omega, rfl, rfl⟩
    case round =>
      obtain ⟨k, hk, rfl, rfl⟩ := hrel
      by_cases hlt : k < 0
      · omega
      · have hkn : k = 0 := by omega
        subst hkn
        go_wp2_with fail
        go_ret2
        exact ⟨rfl, rfl⟩
  · have hc1 : ¬ cap - 1 = 0 := by omega
    go_enter Try.func7, Try.ntmps7
    go_wp2_with fail
    go_loop [2, 5, 27] (fun v _ i => ∃ k : Nat, k ≤ 0 ∧ i = .int .i64 k ∧ v = .int .u64 (val B k)) (fun _ _ i => 0 - (intOf i).toNat)
    case atStart => exact ⟨0, by omega, rfl, rfl⟩
    case round =>
      obtain ⟨k, hk, rfl, rfl⟩ := hrel
      by_cases hlt : k < 0
      · omega
      · have hkn : k = 0 := by omega
        subst hkn
        go_wp2_with fail
        go_ret2
        exact ⟨rfl, rfl⟩

set_option maxHeartbeats 400000 in
theorem read_full2 (b off m cap : Nat) (B : Nat → Int) (w : World) (hm : m ≤ 1048576) (hmc : m ≤ cap) (hB : ∀ j, 0 ≤ B j ∧ B j ≤ 255) (h : ∀ j, j < m → w.cell? ⟨b, off + j, none⟩ = some (.int .u8 (B j))) (hf0 : 64 ≤ B 0) (hf1 : B 0 ≤ 127) (hmn : 2 ≤ m) :
    Calls Try.prog 7 #[.slice (some ⟨b, off, none⟩) m cap] w fun e w' => e = .returned (.tuple #[.int .u64 (val B 1), .int .i64 2]) ∧ w' = w := by
  have c0 := h 0 (by omega)
  have hb0 := hB 0
  have hz : ((m : Int) == 0) = false := beq_eq_false_iff_ne.2 (by omega)
  have H : Hid (∀ j, j < m → w.cell? ⟨b, off + j, none⟩ = some (.int .u8 (B j))) := h
  have HB : Hid (∀ j, 0 ≤ B j ∧ B j ≤ 255) := hB
  clear h hB
  rw [Nat.add_zero] at c0
  have hq : B 0 / 64 = 1 := by omega
  go_enter Try.func7, Try.ntmps7
  go_wp2_with fail
  go_loop [2, 5, 27] (fun v _ i => ∃ k : Nat, k ≤ 1 ∧ i = .int .i64 k ∧ v = .int .u64 (val B k)) (fun _ _ i => 1 - (intOf i).toNat)
  case atStart => exact ⟨0, by omega, rfl, rfl⟩
  case round =>
    obtain ⟨k, hk, rfl, rfl⟩ := hrel
    by_cases hlt : k < 1
    · have ck : w.cell? ⟨b, off + 1 + k, none⟩ = some (.int .u8 (B (k + 1))) := by rw [show off + 1 + k = off + (k + 1) by omega]; exact H.out (k + 1) (by omega)
      have hbk := HB.out (k + 1)
      have hvk := val_lt54 B HB.out k (by omega)
      have hor : Hid (bits .or .u64 (val B k * 256) (B (k + 1)) = val B (k + 1)) := or_byte _ _ hvk.1 hvk.2 hbk.1 (by omega)
      generalize B (k + 1) = c at *
      generalize val B k = v at *
      have hc0 : 0 ≤ c := hbk.1
      have hc1 : c < 256 := by omega
      have hv0 : 0 ≤ v := hvk.1
      have hv1 : v < 18014398509481984 := hvk.2
      clear hbk hvk
      go_wp2_with fail
      exact ⟨⟨k + 1, by omega, by go_num, by rw [hor.out]⟩, by simp [intOf]; omega⟩
    · have hkn : k = 1 := by omega
      subst hkn
      go_wp2_with fail
      go_ret2
      exact ⟨rfl, rfl⟩

set_option maxHeartbeats 400000 in
theorem read_short2 (b off m cap : Nat) (f : Int) (w : World) (hm : m ≤ 1048576) (hm0 : 0 < m) (c0 : w.cell? ⟨b, off, none⟩ = some (.int .u8 f)) (hf0 : 64 ≤ f) (hf1 : f ≤ 127) (hmn : m < 2) :
    Calls Try.prog 7 #[.slice (some ⟨b, off, none⟩) m cap] w fun e w' => e = .returned (.tuple #[.int .u64 0, .int .i64 0]) ∧ w' = w := by
  have hz : ((m : Int) == 0) = false := beq_eq_false_iff_ne.2 (by omega)
  have hq : f / 64 = 1 := by omega
  go_enter Try.func7, Try.ntmps7
  go_wp2_with fail
  go_ret2
  exact ⟨rfl, rfl⟩

set_option maxHeartbeats 400000 in
theorem read_full4 (b off m cap : Nat) (B : Nat → Int) (w : World) (hm : m ≤ 1048576) (hmc : m ≤ cap) (hB : ∀ j, 0 ≤ B j ∧ B j ≤ 255) (h : ∀ j, j < m → w.cell? ⟨b, off + j, none⟩ = some (.int .u8 (B j))) (hf0 : 128 ≤ B 0) (hf1 : B 0 ≤ 191) (hmn : 4 ≤ m) :
    Calls Try.prog 7 #[.slice (some ⟨b, off, none⟩) m cap] w fun e w' => e = .returned (.tuple #[.int .u64 (val B 3), .int .i64 4]) ∧ w' = w := by
  have c0 := h 0 (by omega)
  have hb0 := hB 0
  have hz : ((m : Int) == 0) = false := beq_eq_false_iff_ne.2 (by omega)
  have H : Hid (∀ j, j < m → w.cell? ⟨b, off + j, none⟩ = some (.int .u8 (B j))) := h
  have HB : Hid (∀ j, 0 ≤ B j ∧ B j ≤ 255) := hB
  clear h hB
  rw [Nat.add_zero] at c0
  have hq : B 0 / 64 = 2 := by omega
  go_enter Try.func7, Try.ntmps7
  go_wp2_with fail
  go_loop [2, 5, 27] (fun v _ i => ∃ k : Nat, k ≤ 3 ∧ i = .int .i64 k ∧ v = .int .u64 (val B k)) (fun _ _ i => 3 - (intOf i).toNat)
  case atStart => exact ⟨0, by omega, rfl, rfl⟩
  case round =>
    obtain ⟨k, hk, rfl, rfl⟩ := hrel
    by_cases hlt : k < 3
    · have ck : w.cell? ⟨b, off + 1 + k, none⟩ = some (.int .u8 (B (k + 1))) := by rw [show off + 1 + k = off + (k + 1) by omega]; exact H.out (k + 1) (by omega)
      have hbk := HB.out (k + 1)
      have hvk := val_lt54 B HB.out k (by omega)
      have hor : Hid (bits .or .u64 (val B k * 256) (B (k + 1)) = val B (k + 1)) := or_byte _ _ hvk.1 hvk.2 hbk.1 (by omega)
      generalize B (k + 1) = c at *
      generalize val B k = v at *
      have hc0 : 0 ≤ c := hbk.1
      have hc1 : c < 256 := by omega
      have hv0 : 0 ≤ v := hvk.1
      have hv1 : v < 18014398509481984 := hvk.2
      clear hbk hvk
      go_wp2_with fail
      exact ⟨⟨k + 1, by omega, by go_num, by rw [hor.out]⟩, by simp [intOf]; omega⟩
    · have hkn : k = 3 := by omega
      subst hkn
      go_wp2_with fail
      go_ret2
      exact ⟨rfl, rfl⟩

set_option maxHeartbeats 400000 in
theorem read_short4 (b off m cap : Nat) (f : Int) (w : World) (hm : m ≤ 1048576) (hm0 : 0 < m) (c0 : w.cell? ⟨b, off, none⟩ = some (.int .u8 f)) (hf0 : 128 ≤ f) (hf1 : f ≤ 191) (hmn : m < 4) :
    Calls Try.prog 7 #[.slice (some ⟨b, off, none⟩) m cap] w fun e w' => e = .returned (.tuple #[.int .u64 0, .int .i64 0]) ∧ w' = w := by
  have hz : ((m : Int) == 0) = false := beq_eq_false_iff_ne.2 (by omega)
  have hq : f / 64 = 2 := by omega
  go_enter Try.func7, Try.ntmps7
  go_wp2_with fail
  go_ret2
  exact ⟨rfl, rfl⟩

set_option maxHeartbeats 400000 in
theorem read_full8 (b off m cap : Nat) (B : Nat → Int) (w : World) (hm : m ≤ 1048576) (hmc : m ≤ cap) (hB : ∀ j, 0 ≤ B j ∧ B j ≤ 255) (h : ∀ j, j < m → w.cell? ⟨b, off + j, none⟩ = some (.int .u8 (B j))) (hf0 : 192 ≤ B 0) (hf1 : B 0 ≤ 255) (hmn : 8 ≤ m) :
    Calls Try.prog 7 #[.slice (some ⟨b, off, none⟩) m cap] w fun e w' => e = .returned (.tuple #[.int .u64 (val B 7), .int .i64 8]) ∧ w' = w := by
  have c0 := h 0 (by omega)
  have hb0 := hB 0
  have hz : ((m : Int) == 0) = false := beq_eq_false_iff_ne.2 (by omega)
  have H : Hid (∀ j, j < m → w.cell? ⟨b, off + j, none⟩ = some (.int .u8 (B j))) := h
  have HB : Hid (∀ j, 0 ≤ B j ∧ B j ≤ 255) := hB
  clear h hB
  rw [Nat.add_zero] at c0
  have hq : B 0 / 64 = 3 := by omega
  go_enter Try.func7, Try.ntmps7
  go_wp2_with fail
  go_loop [2, 5, 27] (fun v _ i => ∃ k : Nat, k ≤ 7 ∧ i = .int .i64 k ∧ v = .int .u64 (val B k)) (fun _ _ i => 7 - (intOf i).toNat)
  case atStart => exact ⟨0, by omega, rfl, rfl⟩
  case round =>
    obtain ⟨k, hk, rfl, rfl⟩ := hrel
    by_cases hlt : k < 7
    · have ck : w.cell? ⟨b, off + 1 + k, none⟩ = some (.int .u8 (B (k + 1))) := by rw [show off + 1 + k = off + (k + 1) by omega]; exact H.out (k + 1) (by omega)
      have hbk := HB.out (k + 1)
      have hvk := val_lt54 B HB.out k (by omega)
      have hor : Hid (bits .or .u64 (val B k * 256) (B (k + 1)) = val B (k + 1)) := or_byte _ _ hvk.1 hvk.2 hbk.1 (by omega)
      generalize B (k + 1) = c at *
      generalize val B k = v at *
      have hc0 : 0 ≤ c := hbk.1
      have hc1 : c < 256 := by omega
      have hv0 : 0 ≤ v := hvk.1
      have hv1 : v < 18014398509481984 := hvk.2
      clear hbk hvk
      go_wp2_with fail
      exact ⟨⟨k + 1, by omega, by go_num, by rw [hor.out]⟩, by simp [intOf]; omega⟩
    · have hkn : k = 7 := by omega
      subst hkn
      go_wp2_with fail
      go_ret2
      exact ⟨rfl, rfl⟩

set_option maxHeartbeats 400000 in
theorem read_short8 (b off m cap : Nat) (f : Int) (w : World) (hm : m ≤ 1048576) (hm0 : 0 < m) (c0 : w.cell? ⟨b, off, none⟩ = some (.int .u8 f)) (hf0 : 192 ≤ f) (hf1 : f ≤ 255) (hmn : m < 8) :
    Calls Try.prog 7 #[.slice (some ⟨b, off, none⟩) m cap] w fun e w' => e = .returned (.tuple #[.int .u64 0, .int .i64 0]) ∧ w' = w := by
  have hz : ((m : Int) == 0) = false := beq_eq_false_iff_ne.2 (by omega)
  have hq : f / 64 = 3 := by omega
  go_enter Try.func7, Try.ntmps7
  go_wp2_with fail
  go_ret2
  exact ⟨rfl, rfl⟩

theorem need_cases (f : Int) (h0 : 0 ≤ f) (h1 : f ≤ 255) : (0 ≤ f ∧ f ≤ 63 ∧ need f = 1) ∨ (64 ≤ f ∧ f ≤ 127 ∧ need f = 2) ∨ (128 ≤ f ∧ f ≤ 191 ∧ need f = 4) ∨ (192 ≤ f ∧ f ≤ 255 ∧ need f = 8) := by
  unfold need
  by_cases a : 192 ≤ f
  · rw [if_pos a]; omega
  · rw [if_neg a]
    by_cases b : 128 ≤ f
    · rw [if_pos b]; omega
    · rw [if_neg b]
      by_cases c : 64 ≤ f
      · rw [if_pos c]; omega
      · rw [if_neg c]; omega

theorem read_any (a : Option Addr) (m cap : Nat) (B : Nat → Int) (w : World) (h : BytesAt w (.slice a m cap) m B) (hm : m ≤ 1048576) (hB : ∀ j, 0 ≤ B j ∧ B j ≤ 255) :
    Calls Try.prog 7 #[.slice a m cap] w fun e w' => e = .returned (.tuple #[.int .u64 (rv m B), .int .i64 (rn m B)]) ∧ w' = w := by
  obtain ⟨a', cap', hv, hmc, h⟩ := h
  cases hv
  by_cases h0 : m = 0
  · subst h0
    exact read_nil a cap w
  rcases h with h | ⟨b, off, rfl, h⟩
  · exact absurd h h0
  have c0 := h 0 (by omega)
  rw [Nat.add_zero] at c0
  by_cases hs : m < need (B 0)
  · have e1 : rv m B = 0 := by unfold rv; rw [if_neg h0, if_pos hs]
    have e2 : rn m B = 0 := by unfold rn; rw [if_neg h0, if_pos hs]
    rw [e1, e2]
    rcases need_cases (B 0) (hB 0).1 (hB 0).2 with ⟨l, r, e⟩ | ⟨l, r, e⟩ | ⟨l, r, e⟩ | ⟨l, r, e⟩
    · omega
    · exact read_short2 b off m cap (B 0) w hm (by omega) c0 l r (by omega)
    · exact read_short4 b off m cap (B 0) w hm (by omega) c0 l r (by omega)
    · exact read_short8 b off m cap (B 0) w hm (by omega) c0 l r (by omega)
  · have e1 : rv m B = val B (need (B 0) - 1) := by unfold rv; rw [if_neg h0, if_neg hs]
    have e2 : rn m B = need (B 0) := by unfold rn; rw [if_neg h0, if_neg hs]
    rw [e1, e2]
    rcases need_cases (B 0) (hB 0).1 (hB 0).2 with ⟨l, r, e⟩ | ⟨l, r, e⟩ | ⟨l, r, e⟩ | ⟨l, r, e⟩
    · rw [e]; exact read_full1 b off m cap B w hm hmc hB h l r (by omega)
    · rw [e]; exact read_full2 b off m cap B w hm hmc hB h l r (by omega)
    · rw [e]; exact read_full4 b off m cap B w hm hmc hB h l r (by omega)
    · rw [e]; exact read_full8 b off m cap B w hm hmc hB h l r (by omega)

set_option maxHeartbeats 400000 in
theorem zzNeed (f : Int) (w : World) (h0 : 0 ≤ f) (h1 : f ≤ 255) : Calls Try.prog 8 #[.int .u8 f] w fun e w' => e = .returned (.int .i64 (need f)) ∧ w' = w := by
  rcases need_cases f h0 h1 with ⟨l, r, e⟩ | ⟨l, r, e⟩ | ⟨l, r, e⟩ | ⟨l, r, e⟩
  all_goals
    rw [e]
    clear e
    go_enter Try.func8, Try.ntmps8
    go_wp2_with fail
    go_ret
    exact ⟨rfl, rfl⟩

end Go.Proofs.Qxb6617825a.ReadW
