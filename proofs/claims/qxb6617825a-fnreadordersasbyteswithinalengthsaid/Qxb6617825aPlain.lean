/-
  Plain mathematics of RFC 9000's variable-length integers: no program in sight.
-/
import Derived.WalkKit
namespace Go.Proofs.Qxb6617825a.Plain

/-- The length that the first byte announces. -/
def need (f : Int) : Nat := if 192 ≤ f then 8 else if 128 ≤ f then 4 else if 64 ≤ f then 2 else 1
/-- The number that the first k + 1 bytes hold. -/
def val (B : Nat → Int) : Nat → Int
  | 0 => B 0 % 64
  | k + 1 => val B k * 256 + B (k + 1)

theorem val_bd (B : Nat → Int) (hB : ∀ j, 0 ≤ B j ∧ B j ≤ 255) : ∀ k, 0 ≤ val B k ∧ val B k < 64 * (256 : Int) ^ k
  | 0 => by
    have := hB 0
    simp only [val, Int.pow_zero]
    omega
  | k + 1 => by
    have ih := val_bd B hB k
    have hb := hB (k + 1)
    have hp : (256 : Int) ^ (k + 1) = 256 ^ k * 256 := Int.pow_succ _ _
    simp only [val, hp]
    generalize (256 : Int) ^ k = p at *
    omega

theorem val_lt54 (B : Nat → Int) (hB : ∀ j, 0 ≤ B j ∧ B j ≤ 255) (k : Nat) (hk : k < 7) : 0 ≤ val B k ∧ val B k < 18014398509481984 := by
  have h := val_bd B hB k
  have hp : (256 : Int) ^ k ≤ 281474976710656 := by
    rcases (by omega : k = 0 ∨ k = 1 ∨ k = 2 ∨ k = 3 ∨ k = 4 ∨ k = 5 ∨ k = 6) with rfl | rfl | rfl | rfl | rfl | rfl | rfl <;> decide
  generalize (256 : Int) ^ k = p at *
  omega

/-- 'v << 8 | c'. -/
theorem or_byte (v c : Int) (h0 : 0 ≤ v) (h1 : v < 18014398509481984) (c0 : 0 ≤ c) (c1 : c < 256) : bits .or .u64 (v * 256) c = v * 256 + c := by
  obtain ⟨a, rfl⟩ := Int.eq_ofNat_of_zero_le h0
  obtain ⟨d, rfl⟩ := Int.eq_ofNat_of_zero_le c0
  have e : ((a : Int) * 256) = ((2 ^ 8 * a : Nat) : Int) := by omega
  rw [e, bits_or_u64_nat _ _ (by omega) (by omega), ← Nat.two_pow_add_eq_or_of_lt (by omega)]
  omega

/-- What Read hands back of m bytes: the value .. -/
def rv (m : Nat) (B : Nat → Int) : Int := if m = 0 then 0 else if m < need (B 0) then 0 else val B (need (B 0) - 1)
/-- .. and the length. -/
def rn (m : Nat) (B : Nat → Int) : Int := if m = 0 then 0 else if m < need (B 0) then 0 else need (B 0)

end Go.Proofs.Qxb6617825a.Plain
