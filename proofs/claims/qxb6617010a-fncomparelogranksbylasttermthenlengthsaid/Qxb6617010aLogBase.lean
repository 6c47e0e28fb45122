/-
  Logs in memory, by index: what a slice of entries (Term, NoOp, Command) reads as. Shared by the laws on Committed and compareLog.
-/
import Derived.Test.Qxb6617010aRows
import Derived.WalkKit
import Derived.WalkSpells
import Derived.WalkLawsBesides
namespace Go.Proofs.Qxb6617010a.LogB
open Go.RowKit

/-- A slice of m bytes, byte j being 'B j', that lies in a block from lo on. -/
def BytesAt (lo : Nat) (w : World) (v : Value) (m : Nat) (B : Nat → Int) : Prop :=
  ∃ a cap, v = .slice a m cap ∧ (m = 0 ∨ ∃ b off, a = some ⟨b, off, none⟩ ∧ lo ≤ b ∧ ∀ j, j < m → w.cell? ⟨b, off + j, none⟩ = some (.int .u8 (B j)))

/-- The cells of n entries that lie at block b from offset off on. -/
def Ents (w : World) (b off n : Nat) (T : Nat → Int) (N : Nat → Bool) (M : Nat → Nat) (B : Nat → Nat → Int) : Prop :=
  ∀ i, i < n → ∃ c, w.cell? ⟨b, off + i * 3, none⟩ = some (.int .u64 (T i)) ∧ w.cell? ⟨b, off + i * 3 + 1, none⟩ = some (.bool (N i)) ∧ w.cell? ⟨b, off + i * 3 + 2, none⟩ = some c ∧ BytesAt 0 w c (M i) (B i)

/-- A slice of n entries. -/
def LogAt (w : World) (v : Value) (n : Nat) (T : Nat → Int) (N : Nat → Bool) (M : Nat → Nat) (B : Nat → Nat → Int) : Prop :=
  ∃ a cap, v = .slice a n cap ∧ n ≤ cap ∧ (n = 0 ∨ ∃ b off, a = some ⟨b, off, none⟩ ∧ Ents w b off n T N M B)

theorem keep {W w' : World} {a : Addr} {v : Value} (hb : Below W.heap.size W w') (h : W.cell? a = some v) : w'.cell? a = some v :=
  (hb.cell (World.block_lt_of_cell? W a h)).trans h

theorem lay {W : World} {a : Addr} {v : Value} (o : Obj) (h : W.cell? a = some v) : (W.alloc o).cell? a = some v :=
  (World.cell?_alloc_lt W o a (World.block_lt_of_cell? W a h)).trans h

theorem step {w a b : World} (h : Below w.heap.size w a) (k : Below a.heap.size a b) : Below w.heap.size w b := h.trans (k.mono h.size)
theorem stepA {w a : World} (h : Below w.heap.size w a) (o : Obj) : Below w.heap.size w (a.alloc o) := h.alloc h.size o

theorem BytesAt.below {lo : Nat} {w w' : World} {v : Value} {m : Nat} {B : Nat → Int} (h : BytesAt lo w v m B) (hb : Below w.heap.size w w') : BytesAt lo w' v m B := by
  obtain ⟨a, cap, hv, h⟩ := h
  refine ⟨a, cap, hv, ?_⟩
  rcases h with h | ⟨b, off, ha, hlo, h⟩
  · exact .inl h
  · exact .inr ⟨b, off, ha, hlo, fun j hj => keep hb (h j hj)⟩

theorem BytesAt.mono {lo lo' : Nat} {w : World} {v : Value} {m : Nat} {B : Nat → Int} (h : BytesAt lo w v m B) (hl : lo' ≤ lo) : BytesAt lo' w v m B := by
  obtain ⟨a, cap, hv, h⟩ := h
  refine ⟨a, cap, hv, ?_⟩
  rcases h with h | ⟨b, off, ha, hlo, h⟩
  · exact .inl h
  · exact .inr ⟨b, off, ha, Nat.le_trans hl hlo, h⟩

/-- A store into a block below turns no byte of it. -/
theorem BytesAt.set {lo : Nat} {w : World} {v : Value} {m : Nat} {B : Nat → Int} (h : BytesAt lo w v m B) {p : Addr} (hp : p.block < lo) (u : Value) : BytesAt lo (w.setCell p u) v m B := by
  obtain ⟨a, cap, hv, h⟩ := h
  refine ⟨a, cap, hv, ?_⟩
  rcases h with h | ⟨b, off, ha, hlo, h⟩
  · exact .inl h
  · exact .inr ⟨b, off, ha, hlo, fun j hj => (World.cell?_of_block (w := w) (Below.heap_setCell w p u b (by omega))).trans (h j hj)⟩

theorem Ents.below {w w' : World} {b off n : Nat} {T : Nat → Int} {N : Nat → Bool} {M : Nat → Nat} {B : Nat → Nat → Int} (h : Ents w b off n T N M B) (hb : Below w.heap.size w w') : Ents w' b off n T N M B := by
  intro i hi
  obtain ⟨c, h0, h1, h2, h3⟩ := h i hi
  exact ⟨c, keep hb h0, keep hb h1, keep hb h2, h3.below hb⟩

theorem LogAt.below {w w' : World} {v : Value} {n : Nat} {T : Nat → Int} {N : Nat → Bool} {M : Nat → Nat} {B : Nat → Nat → Int} (h : LogAt w v n T N M B) (hb : Below w.heap.size w w') : LogAt w' v n T N M B := by
  obtain ⟨a, cap, hv, hc, h⟩ := h
  refine ⟨a, cap, hv, hc, ?_⟩
  rcases h with h | ⟨b, off, ha, h⟩
  · exact .inl h
  · exact .inr ⟨b, off, ha, h.below hb⟩

end Go.Proofs.Qxb6617010a.LogB
