/-
  Rule.known, through ZZknown: true just on 0 .. 25.
-/
import Derived.Test.Qxb6618558aRows
import Derived.WalkKit
import Derived.WalkSpells
import Derived.WalkLawsBesides
namespace Go.Proofs.Qxb6618558a.Known
open Go.RowKit

theorem neg (r : Int) (w : World) (h : r < 0) : Calls Try.prog 5 #[.int .i64 r] w fun e w' => e = .returned (.bool false) ∧ w' = w := by
  have h1 : decide (0 ≤ r) = false := decide_eq_false (by omega)
  go_enter Try.func5, Try.ntmps5
  go_wp2
  go_ret
  exact ⟨rfl, rfl⟩

theorem mid (r : Int) (w : World) (h0 : 0 ≤ r) (h1 : r ≤ 25) : Calls Try.prog 5 #[.int .i64 r] w fun e w' => e = .returned (.bool true) ∧ w' = w := by
  have h2 : decide (0 ≤ r) = true := decide_eq_true h0
  have h3 : decide (r < 26) = true := decide_eq_true (by omega)
  go_enter Try.func5, Try.ntmps5
  go_wp2
  go_ret
  exact ⟨rfl, rfl⟩

theorem far (r : Int) (w : World) (h : 26 ≤ r) : Calls Try.prog 5 #[.int .i64 r] w fun e w' => e = .returned (.bool false) ∧ w' = w := by
  have h2 : decide (0 ≤ r) = true := decide_eq_true (by omega)
  have h3 : decide (r < 26) = false := decide_eq_false (by omega)
  go_enter Try.func5, Try.ntmps5
  go_wp2
  go_ret
  exact ⟨rfl, rfl⟩

end Go.Proofs.Qxb6618558a.Known
