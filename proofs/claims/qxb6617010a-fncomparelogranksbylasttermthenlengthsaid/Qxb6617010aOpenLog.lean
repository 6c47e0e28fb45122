/-
  A log that came in as an argument, opened: it reads as a log by index ('LogAt').
-/
import Derived.Test.Qxb6617010aLogBase
import Derived.ProofKit
import Derived.Deep.Slices
import Derived.Deep.Strs
namespace Go.Proofs.Qxb6617010a.OpenLog
open Go.ChangeShapes Go.WideShapes Go.ChangeAt Go.RowKit Go.Deep Go.Proofs.Qxb6617010a.LogB

theorem cells39 : Try.prog.cellsOf 39 = 3 := by kernel_rfl
theorem cells23 : Try.prog.cellsOf 23 = 1 := by kernel_rfl
theorem cells4 : Try.prog.cellsOf 4 = 1 := by kernel_rfl
theorem cells35 : Try.prog.cellsOf 35 = 1 := by kernel_rfl
theorem cells5 : Try.prog.cellsOf 5 = 1 := by kernel_rfl

theorem plain_of_cell {w : World} {a : Addr} {v : Value} (h : w.cell? a = some v) : ∃ b off, a = ⟨b, off, none⟩ := by
  obtain ⟨b, off, sp⟩ := a
  cases sp with
  | none => exact ⟨b, off, rfl⟩
  | some s => simp [World.cell?] at h; split at h <;> simp_all

theorem add_plain (b off i : Nat) : (⟨b, off, none⟩ : Addr).add i = ⟨b, off + i, none⟩ := by
  unfold Addr.add
  split <;> simp_all

theorem len3 {l : List Value} (h : l.length = 3) : ∃ a b c, l = [a, b, c] := by
  match l, h with
  | [a, b, c], _ => exact ⟨a, b, c, rfl⟩

section
variable {H : Type} {enc : TypeId × Value → H} {W : World} {base : Nat}

theorem open_bytes {n : Nat} {c : Value} {x : DataW H × List MemPlace} (h : DataW.trod enc Try.prog W base (fun _ => true) true n 35 [c] = some x) : ∃ M B, BytesAt 0 W c M B ∧ M ≤ maxLen := by
  rcases open_ints Try.underlying35 Try.underlying5 cells5 h with ⟨hcs, _⟩ | ⟨a, l, cp, zs, hcs, _, hl, hm, hz, _, hcell, _⟩
  · cases hcs
    exact ⟨0, fun _ => 0, ⟨none, 0, rfl, .inl rfl⟩, Nat.zero_le _⟩
  · cases hcs
    simp only [if_true] at hz
    refine ⟨l, fun j => zs.getD j 0, ⟨some a, cp, rfl, ?_⟩, Nat.le_trans hl hm⟩
    by_cases h0 : l = 0
    · exact .inl h0
    · have hc0 := hcell 0 (by omega)
      obtain ⟨b, off, hab⟩ := plain_of_cell hc0
      have ha : a = ⟨b, off, none⟩ := by simpa [Addr.add] using hab
      subst ha
      exact .inr ⟨b, off, rfl, Nat.zero_le _, fun j hj => by rw [← add_plain]; exact hcell j (by omega)⟩

theorem open_entry {n : Nat} {a : Addr} {cs : List Value} {x : DataW H × List MemPlace} (hc : W.cells? base a 3 = some cs) (h : DataW.trod enc Try.prog W base (fun _ => true) true n 39 cs = some x) :
    ∃ (T : Int) (N : Bool) (M : Nat) (B : Nat → Int) (c : Value), W.cell? (a.add 0) = some (.int .u64 T) ∧ W.cell? (a.add 1) = some (.bool N) ∧ W.cell? (a.add 2) = some c ∧ BytesAt 0 W c M B ∧ M ≤ maxLen := by
  obtain ⟨_, hlen, hcell⟩ := World.cells?_some hc
  obtain ⟨y0, y1, y2, m, _, _, e0, e1, e2⟩ := trod_struct3 Try.underlying39 h
  obtain ⟨c0, c1, c2, rfl⟩ := len3 hlen
  simp only [cells23, cells4, cells35, List.drop, List.take] at e0 e1 e2
  obtain ⟨T, h0, _⟩ := DataW.trod_int Try.underlying23 e0
  obtain ⟨N, h1, _⟩ := DataW.trod_bool Try.underlying4 e1
  obtain ⟨M, B, h2, hM⟩ := open_bytes e2
  cases h0
  cases h1
  exact ⟨T, N, M, B, c2, by simpa using hcell 0 (by omega), by simpa using hcell 1 (by omega), by simpa using hcell 2 (by omega), h2, hM⟩

theorem open_log {a : Option Addr} {n cap : Nat} {d : DataW H} {p : List MemPlace} (h : DataW.Trod enc Try.prog W base (fun _ => true) true 22 (.slice a n cap) d p) :
    n ≤ maxLen ∧ ∃ (T : Nat → Int) (N : Nat → Bool) (M : Nat → Nat) (B : Nat → Nat → Int), LogAt W (.slice a n cap) n T N M B ∧ ∀ i, i < n → M i ≤ maxLen := by
  obtain ⟨fuel, hf⟩ := h
  rcases open_slice Try.underlying22 hf with ⟨hcs, _⟩ | ⟨x, l, cp, m, fu, D, Pl, hcs, _, hl, hm, hmm, _, hel⟩
  · simp [Value.cells] at hcs
    obtain ⟨rfl, rfl, rfl⟩ := hcs
    exact ⟨Nat.zero_le _, fun _ => 0, fun _ => false, fun _ => 0, fun _ _ => 0, ⟨none, 0, rfl, Nat.le_refl _, .inl rfl⟩, fun i hi => by omega⟩
  · simp [Value.cells] at hcs
    obtain ⟨rfl, rfl, rfl⟩ := hcs
    simp only [if_true] at hmm
    subst hmm
    refine ⟨Nat.le_trans hl hm, ?_⟩
    rw [cells39] at hel
    have hall : ∀ i, i < n → ∃ q : Int × Bool × Nat × (Nat → Int) × Value, W.cell? ((x.add (i * 3)).add 0) = some (.int .u64 q.1) ∧ W.cell? ((x.add (i * 3)).add 1) = some (.bool q.2.1) ∧ W.cell? ((x.add (i * 3)).add 2) = some q.2.2.2.2 ∧ BytesAt 0 W q.2.2.2.2 q.2.2.1 q.2.2.2.1 ∧ q.2.2.1 ≤ maxLen := fun i hi => by
      obtain ⟨cs, h1, h2⟩ := hel i (by omega)
      obtain ⟨T, N, M, B, c, r⟩ := open_entry h1 h2
      exact ⟨(T, N, M, B, c), r⟩
    obtain ⟨q, hq⟩ := choose_lt (α := Int × Bool × Nat × (Nat → Int) × Value) hall
    refine ⟨fun i => (q i).1, fun i => (q i).2.1, fun i => (q i).2.2.1, fun i => (q i).2.2.2.1, ⟨_, _, rfl, hl, ?_⟩, fun i hi => (hq i hi).2.2.2.2⟩
    by_cases h0 : n = 0
    · exact .inl h0
    · have hc0 := (hq 0 (by omega)).1
      obtain ⟨b, off, hab⟩ := plain_of_cell hc0
      have ha : x = ⟨b, off, none⟩ := by simpa [Addr.add] using hab
      subst ha
      refine .inr ⟨b, off, rfl, fun i hi => ?_⟩
      obtain ⟨r0, r1, r2, r3, _⟩ := hq i hi
      simp only [add_plain] at r0 r1 r2
      exact ⟨_, r0, r1, r2, r3⟩

end
end Go.Proofs.Qxb6617010a.OpenLog
