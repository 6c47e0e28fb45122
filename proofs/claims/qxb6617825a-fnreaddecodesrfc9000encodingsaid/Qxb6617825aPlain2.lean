/-
  Plain mathematics: the bytes of a number, and the two length bits.
-/
import Derived.Test.Qxb6617825aPlain
namespace Go.Proofs.Qxb6617825a.Plain2
open Go.Proofs.Qxb6617825a.Plain

/-- The two length bits laid over the first byte's low six. -/
theorem or_lenbits (f : Int) (q : Nat) (hq : q ≤ 3) (h0 : 64 * (q : Int) ≤ f) (h1 : f ≤ 64 * (q : Int) + 63) : bits .or .u8 (f % 64) (64 * (q : Int)) = f := by
  rw [u8_or _ _ (by omega) (by omega) (by omega) (by omega)]
  have e : (64 * (q : Int)).toNat = 2 ^ 6 * q := by omega
  rw [e, Nat.or_comm, ← Nat.two_pow_add_eq_or_of_lt (by omega)]
  omega

theorem dec_1_0 (B : Nat → Int) (hB : ∀ j, 0 ≤ B j ∧ B j ≤ 255) : val B 0 = B 0 % 64 := by
  have h0 := hB 0
  simp only [val]

theorem dec_2_0 (B : Nat → Int) (hB : ∀ j, 0 ≤ B j ∧ B j ≤ 255) : val B 1 / 256 = B 0 % 64 := by
  have h0 := hB 0
  have h1 := hB 1
  simp only [val, Nat.zero_add]
  omega

theorem dec_2_1 (B : Nat → Int) (hB : ∀ j, 0 ≤ B j ∧ B j ≤ 255) : val B 1 % 256 = B 1 := by
  have h0 := hB 0
  have h1 := hB 1
  simp only [val, Nat.zero_add]
  omega

theorem dec_4_0 (B : Nat → Int) (hB : ∀ j, 0 ≤ B j ∧ B j ≤ 255) : val B 3 / 16777216 = B 0 % 64 := by
  have h0 := hB 0
  have h1 := hB 1
  have h2 := hB 2
  have h3 := hB 3
  simp only [val, Nat.zero_add, Nat.reduceAdd]
  omega

theorem dec_4_1 (B : Nat → Int) (hB : ∀ j, 0 ≤ B j ∧ B j ≤ 255) : val B 3 / 65536 % 256 = B 1 := by
  have h0 := hB 0
  have h1 := hB 1
  have h2 := hB 2
  have h3 := hB 3
  simp only [val, Nat.zero_add, Nat.reduceAdd]
  omega

theorem dec_4_2 (B : Nat → Int) (hB : ∀ j, 0 ≤ B j ∧ B j ≤ 255) : val B 3 / 256 % 256 = B 2 := by
  have h0 := hB 0
  have h1 := hB 1
  have h2 := hB 2
  have h3 := hB 3
  simp only [val, Nat.zero_add, Nat.reduceAdd]
  omega

theorem dec_4_3 (B : Nat → Int) (hB : ∀ j, 0 ≤ B j ∧ B j ≤ 255) : val B 3 % 256 = B 3 := by
  have h0 := hB 0
  have h1 := hB 1
  have h2 := hB 2
  have h3 := hB 3
  simp only [val, Nat.zero_add, Nat.reduceAdd]
  omega

theorem dec_8_0 (B : Nat → Int) (hB : ∀ j, 0 ≤ B j ∧ B j ≤ 255) : val B 7 / 72057594037927936 = B 0 % 64 := by
  have h0 := hB 0
  have h1 := hB 1
  have h2 := hB 2
  have h3 := hB 3
  have h4 := hB 4
  have h5 := hB 5
  have h6 := hB 6
  have h7 := hB 7
  simp only [val, Nat.zero_add, Nat.reduceAdd]
  omega

theorem dec_8_1 (B : Nat → Int) (hB : ∀ j, 0 ≤ B j ∧ B j ≤ 255) : val B 7 / 281474976710656 % 256 = B 1 := by
  have h0 := hB 0
  have h1 := hB 1
  have h2 := hB 2
  have h3 := hB 3
  have h4 := hB 4
  have h5 := hB 5
  have h6 := hB 6
  have h7 := hB 7
  simp only [val, Nat.zero_add, Nat.reduceAdd]
  omega

theorem dec_8_2 (B : Nat → Int) (hB : ∀ j, 0 ≤ B j ∧ B j ≤ 255) : val B 7 / 1099511627776 % 256 = B 2 := by
  have h0 := hB 0
  have h1 := hB 1
  have h2 := hB 2
  have h3 := hB 3
  have h4 := hB 4
  have h5 := hB 5
  have h6 := hB 6
  have h7 := hB 7
  simp only [val, Nat.zero_add, Nat.reduceAdd]
  omega

theorem dec_8_3 (B : Nat → Int) (hB : ∀ j, 0 ≤ B j ∧ B j ≤ 255) : val B 7 / 4294967296 % 256 = B 3 := by
  have h0 := hB 0
  have h1 := hB 1
  have h2 := hB 2
  have h3 := hB 3
  have h4 := hB 4
  have h5 := hB 5
  have h6 := hB 6
  have h7 := hB 7
  simp only [val, Nat.zero_add, Nat.reduceAdd]
  omega

theorem dec_8_4 (B : Nat → Int) (hB : ∀ j, 0 ≤ B j ∧ B j ≤ 255) : val B 7 / 16777216 % 256 = B 4 := by
  have h0 := hB 0
  have h1 := hB 1
  have h2 := hB 2
  have h3 := hB 3
  have h4 := hB 4
  have h5 := hB 5
  have h6 := hB 6
  have h7 := hB 7
  simp only [val, Nat.zero_add, Nat.reduceAdd]
  omega

theorem dec_8_5 (B : Nat → Int) (hB : ∀ j, 0 ≤ B j ∧ B j ≤ 255) : val B 7 / 65536 % 256 = B 5 := by
  have h0 := hB 0
  have h1 := hB 1
  have h2 := hB 2
  have h3 := hB 3
  have h4 := hB 4
  have h5 := hB 5
  have h6 := hB 6
  have h7 := hB 7
  simp only [val, Nat.zero_add, Nat.reduceAdd]
  omega

theorem dec_8_6 (B : Nat → Int) (hB : ∀ j, 0 ≤ B j ∧ B j ≤ 255) : val B 7 / 256 % 256 = B 6 := by
  have h0 := hB 0
  have h1 := hB 1
  have h2 := hB 2
  have h3 := hB 3
  have h4 := hB 4
  have h5 := hB 5
  have h6 := hB 6
  have h7 := hB 7
  simp only [val, Nat.zero_add, Nat.reduceAdd]
  omega

theorem dec_8_7 (B : Nat → Int) (hB : ∀ j, 0 ≤ B j ∧ B j ≤ 255) : val B 7 % 256 = B 7 := by
  have h0 := hB 0
  have h1 := hB 1
  have h2 := hB 2
  have h3 := hB 3
  have h4 := hB 4
  have h5 := hB 5
  have h6 := hB 6
  have h7 := hB 7
  simp only [val, Nat.zero_add, Nat.reduceAdd]
  omega

end Go.Proofs.Qxb6617825a.Plain2
