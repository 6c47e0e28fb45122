/-
  A slice of bytes that came in, as the walks take it.
-/
import Derived.Test.Qxb6617825aRead
import Derived.OpenShut
namespace Go.Proofs.Qxb6617825a.IsRowW
open Go.RowKit Go.Proofs.Qxb6617825a.ReadW

/-- What is told of a slice of integers that came in: it is nil; or it leads to a row of 'cap' cells, the numbers 'zs' (the first 'len' are its elements, the rest its spare room), each fitting its kind. -/
def IsRow (k : IntKind) (w : World) (a : Option Addr) (len cap : Nat) (zs : List Int) : Prop :=
  (a = none ∧ len = 0 ∧ cap = 0 ∧ zs = []) ∨
  ∃ x, a = some x ∧ len ≤ cap ∧ cap ≤ maxLen ∧ zs.length = cap ∧ (∀ i, i < zs.length → w.cell? (x.add i) = some (.int k (zs.getD i 0))) ∧ ∀ n ∈ zs, (Lit.int k n).wf = true

theorem plain_of_cell {w : World} {a : Addr} {v : Value} (h : w.cell? a = some v) : ∃ b off, a = ⟨b, off, none⟩ := by
  obtain ⟨b, off, sp⟩ := a
  cases sp with
  | none => exact ⟨b, off, rfl⟩
  | some s => simp [World.cell?] at h; split at h <;> simp_all

theorem add_plain (b off i : Nat) : (⟨b, off, none⟩ : Addr).add i = ⟨b, off + i, none⟩ := by
  unfold Addr.add
  split <;> simp_all

theorem IsRow.bytes {w : World} {a : Option Addr} {len cap : Nat} {zs : List Int} (h : IsRow .u8 w a len cap zs) : BytesAt w (.slice a len cap) len (fun j => zs.getD j 0) := by
  rcases h with ⟨rfl, rfl, rfl, rfl⟩ | ⟨x, rfl, hl, _, hz, hc, _⟩
  · exact ⟨none, 0, rfl, Nat.le_refl _, .inl rfl⟩
  · refine ⟨some x, cap, rfl, hl, ?_⟩
    by_cases h0 : len = 0
    · exact .inl h0
    · obtain ⟨b, off, hab⟩ := plain_of_cell (hc 0 (by omega))
      have ha : x = ⟨b, off, none⟩ := by simpa [Addr.add] using hab
      subst ha
      exact .inr ⟨b, off, rfl, fun j hj => by rw [← add_plain]; exact hc j (by omega)⟩

theorem IsRow.bounds {w : World} {a : Option Addr} {len cap : Nat} {zs : List Int} (h : IsRow .u8 w a len cap zs) : ∀ j, 0 ≤ zs.getD j 0 ∧ zs.getD j 0 ≤ 255 := by
  intro j
  rcases h with ⟨_, _, _, rfl⟩ | ⟨x, _, _, _, _, _, hw⟩
  · simp
  · by_cases hj : j < zs.length
    · have : zs.getD j 0 ∈ zs := by simp [List.getD, hj]
      exact bounds_u8 (hw _ this)
    · simp [List.getD, show zs.length ≤ j by omega]

end Go.Proofs.Qxb6617825a.IsRowW
