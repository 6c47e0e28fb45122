/-
  Plain mathematics: numbers of one length compare as their bytes do.
-/
import Derived.Test.Qxb6617825aPlain
namespace Go.Proofs.Qxb6617825a.Plain3
open Go.Proofs.Qxb6617825a.Plain

/-- The lexicographic comparison of the first n bytes: -1, 0 or 1. -/
def cmpB (A B : Nat → Int) : Nat → Int
  | 0 => 0
  | k + 1 => if cmpB A B k = 0 then (if A k < B k then -1 else if B k < A k then 1 else 0) else cmpB A B k

theorem cmpB_stay (A B : Nat → Int) (k : Nat) (h : cmpB A B k ≠ 0) : ∀ d, cmpB A B (k + d) = cmpB A B k
  | 0 => rfl
  | d + 1 => by
    have ih := cmpB_stay A B k h d
    show cmpB A B (k + d + 1) = _
    simp only [cmpB]
    rw [ih, if_neg h]

theorem cmpB_lt {A B : Nat → Int} {k n : Nat} (h0 : cmpB A B k = 0) (hlt : A k < B k) (hk : k < n) : cmpB A B n = -1 := by
  have h1 : cmpB A B (k + 1) = -1 := by simp [cmpB, h0, hlt]
  have := cmpB_stay A B (k + 1) (by rw [h1]; decide) (n - (k + 1))
  rw [show k + 1 + (n - (k + 1)) = n by omega] at this
  rw [this, h1]

theorem cmpB_gt {A B : Nat → Int} {k n : Nat} (h0 : cmpB A B k = 0) (hgt : B k < A k) (hk : k < n) : cmpB A B n = 1 := by
  have h1 : cmpB A B (k + 1) = 1 := by simp [cmpB, h0, hgt, show ¬ A k < B k by omega]
  have := cmpB_stay A B (k + 1) (by rw [h1]; decide) (n - (k + 1))
  rw [show k + 1 + (n - (k + 1)) = n by omega] at this
  rw [this, h1]

theorem cmpB_eq {A B : Nat → Int} {k : Nat} (h0 : cmpB A B k = 0) (h1 : ¬ A k < B k) (h2 : ¬ B k < A k) : cmpB A B (k + 1) = 0 := by simp [cmpB, h0, h1, h2]

/-- THE LAW: at one length, with one pair of length bits, the values compare as the bytes. -/
theorem order (A B : Nat → Int) (hA : ∀ j, 0 ≤ A j ∧ A j ≤ 255) (hB : ∀ j, 0 ≤ B j ∧ B j ≤ 255) (hq : A 0 / 64 = B 0 / 64) :
    ∀ k, (val A k < val B k ∧ cmpB A B (k + 1) = -1) ∨ (val A k = val B k ∧ cmpB A B (k + 1) = 0) ∨ (val B k < val A k ∧ cmpB A B (k + 1) = 1)
  | 0 => by
    have h1 := hA 0
    have h2 := hB 0
    simp only [val, cmpB, if_true]
    by_cases h : A 0 < B 0
    · rw [if_pos h]; omega
    · rw [if_neg h]
      by_cases h' : B 0 < A 0
      · rw [if_pos h']; omega
      · rw [if_neg h']; omega
  | k + 1 => by
    have ih := order A B hA hB hq k
    have h1 := hA (k + 1)
    have h2 := hB (k + 1)
    rcases ih with ⟨hv, hc⟩ | ⟨hv, hc⟩ | ⟨hv, hc⟩
    · have e : cmpB A B (k + 1 + 1) = -1 := by
        have := cmpB_stay A B (k + 1) (by rw [hc]; decide) 1
        rw [this, hc]
      refine .inl ⟨?_, e⟩
      simp only [val]
      omega
    · simp only [val]
      by_cases h : A (k + 1) < B (k + 1)
      · exact .inl ⟨by omega, cmpB_lt hc h (by omega)⟩
      · by_cases h' : B (k + 1) < A (k + 1)
        · exact .inr (.inr ⟨by omega, cmpB_gt hc h' (by omega)⟩)
        · exact .inr (.inl ⟨by omega, cmpB_eq hc h h'⟩)
    · have e : cmpB A B (k + 1 + 1) = 1 := by
        have := cmpB_stay A B (k + 1) (by rw [hc]; decide) 1
        rw [this, hc]
      refine .inr (.inr ⟨?_, e⟩)
      simp only [val]
      omega

theorem div_of_need {f g : Int} (hf0 : 0 ≤ f) (hf1 : f ≤ 255) (hg0 : 0 ≤ g) (hg1 : g ≤ 255) (h : need f = need g) : f / 64 = g / 64 := by
  unfold need at h
  by_cases a : 192 ≤ f
  all_goals by_cases b : 128 ≤ f
  all_goals by_cases c : 64 ≤ f
  all_goals by_cases a' : 192 ≤ g
  all_goals by_cases b' : 128 ≤ g
  all_goals by_cases c' : 64 ≤ g
  all_goals simp [a, b, c, a', b', c'] at h
  all_goals omega

end Go.Proofs.Qxb6617825a.Plain3
