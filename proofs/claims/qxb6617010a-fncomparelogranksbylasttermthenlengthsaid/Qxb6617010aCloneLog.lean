import Derived.Test.Qxb6617010aClone
import Derived.Deep.RegionHeld3
import Derived.Deep.DrawnRows
namespace Go.Proofs.Qxb6617010a.CloneL
open Go.RowKit Go.Deep Go.Proofs.Qxb6617010a.LogB
attribute [local go_sem ↓] Go.wp_at_zero Go.wp_at_succ

theorem info39 : (Try.prog.info? 39).map (fun i => (i.zero, i.size, i.bytes)) = some (some (.agg #[.int .u64 0, .bool false, .slice none 0 0]), 3, 40) := by kernel_rfl
theorem info37 : (Try.prog.info? 37).map (fun i => (i.zero, i.size, i.bytes)) = some (some (.agg #[.int .u64 0, .bool false, .slice none 0 0]), 3, 40) := by kernel_rfl

/-- The zero entry's cells, over and over. -/
def zrow (n : Nat) : Array Value := madeCells #[.int .u64 0, .bool false, .slice none 0 0] (n * 3)

theorem make3 (t e : TypeId) (ht : Try.prog.underlying t = some (.slice e)) (hinfo : (Try.prog.info? e).map (fun i => (i.zero, i.size, i.bytes)) = some (some (.agg #[.int .u64 0, .bool false, .slice none 0 0]), 3, 40)) (n : Nat) (hn : n ≤ 1048576) (w : World) :
    (Instr.makeSlice t (.int .i64 (n : Int)) (.int .i64 (n : Int))).run Try.prog w = .ok (.slice (some ⟨w.heap.size, 0, none⟩) n n) (w.alloc (.cells (zrow n) e)) := by
  obtain ⟨i, hi, hzz⟩ := Option.map_eq_some_iff.1 hinfo
  simp only [Prod.mk.injEq] at hzz
  obtain ⟨hz, hs, hb⟩ := hzz
  have hr := run_make (P := Try.prog) w t e i _ ht hi hz .i64 .i64 n n (by omega) (Int.le_refl _) (by rw [hb]; omega) (by omega)
  simp only [Int.toNat_natCast, hs] at hr
  exact hr

theorem row_zrow (w : World) (n : Nat) (e : TypeId) : ∃ f, (w.alloc (.cells (zrow n) e)).rowIs w.heap.size e (n * 3) f :=
  ⟨fun j => #[Value.int .u64 0, .bool false, .slice none 0 0][j % 3]!, _, blk_alloc_new _ _, size_madeCells _ _, fun i hi => by unfold zrow; simp [madeCells, hi]⟩

/-- Block g is a row of n entries, the first k of which are those of the log; their commands lie behind g. -/
def Own (g : Nat) (e : TypeId) (n k : Nat) (T : Nat → Int) (N : Nat → Bool) (M : Nat → Nat) (B : Nat → Nat → Int) (w : World) : Prop :=
  ∃ f, w.rowIs g e (n * 3) f ∧ ∀ i, i < k → f (i * 3) = .int .u64 (T i) ∧ f (i * 3 + 1) = .bool (N i) ∧ BytesAt (g + 1) w (f (i * 3 + 2)) (M i) (B i)

theorem Own.below {g : Nat} {e : TypeId} {n k : Nat} {T : Nat → Int} {N : Nat → Bool} {M : Nat → Nat} {B : Nat → Nat → Int} {w w' : World} (h : Own g e n k T N M B w) (hb : Below w.heap.size w w') : Own g e n k T N M B w' := by
  obtain ⟨f, hr, h⟩ := h
  refine ⟨f, hr.of_block (hb.block g hr.lt), fun i hi => ?_⟩
  obtain ⟨h0, h1, h2⟩ := h i hi
  exact ⟨h0, h1, h2.below hb⟩

/-- Entry k laid into the row. -/
theorem Own.set {g : Nat} {e : TypeId} {n k : Nat} {T : Nat → Int} {N : Nat → Bool} {M : Nat → Nat} {B : Nat → Nat → Int} {w : World} (h : Own g e n k T N M B w) (v : Value) (hv : BytesAt (g + 1) w v (M k) (B k)) :
    Own g e n (k + 1) T N M B (((w.setCell ⟨g, k * 3, none⟩ (.int .u64 (T k))).setCell ⟨g, k * 3 + 1, none⟩ (.bool (N k))).setCell ⟨g, k * 3 + 2, none⟩ v) := by
  obtain ⟨f, hr, h⟩ := h
  refine ⟨_, ((hr.set _ _).set _ _).set _ _, fun i hi => ?_⟩
  by_cases he : i = k
  · subst he
    refine ⟨by simp, by simp, ?_⟩
    simp only [if_true]
    exact ((hv.set (p := ⟨g, _, none⟩) (by simp) _).set (p := ⟨g, _, none⟩) (by simp) _).set (p := ⟨g, _, none⟩) (by simp) _
  · obtain ⟨h0, h1, h2⟩ := h i (by omega)
    refine ⟨?_, ?_, ?_⟩
    · simp only [show i * 3 ≠ k * 3 + 2 by omega, show i * 3 ≠ k * 3 + 1 by omega, show i * 3 ≠ k * 3 by omega, if_false]
      exact h0
    · simp only [show i * 3 + 1 ≠ k * 3 + 2 by omega, show i * 3 + 1 ≠ k * 3 + 1 by omega, show i * 3 + 1 ≠ k * 3 by omega, if_false]
      exact h1
    · simp only [show i * 3 + 2 ≠ k * 3 + 2 by omega, show i * 3 + 2 ≠ k * 3 + 1 by omega, show i * 3 + 2 ≠ k * 3 by omega, if_false]
      exact ((h2.set (p := ⟨g, _, none⟩) (by simp) _).set (p := ⟨g, _, none⟩) (by simp) _).set (p := ⟨g, _, none⟩) (by simp) _

theorem Own.log {g : Nat} {e : TypeId} {n : Nat} {T : Nat → Int} {N : Nat → Bool} {M : Nat → Nat} {B : Nat → Nat → Int} {w : World} (h : Own g e n n T N M B w) : LogAt w (.slice (some ⟨g, 0, none⟩) n n) n T N M B := by
  obtain ⟨f, hr, h⟩ := h
  refine ⟨_, n, rfl, Nat.le_refl _, .inr ⟨g, 0, rfl, fun i hi => ?_⟩⟩
  obtain ⟨h0, h1, h2⟩ := h i hi
  refine ⟨f (i * 3 + 2), ?_, ?_, ?_, h2.mono (Nat.zero_le _)⟩
  · rw [Nat.zero_add, hr.cell (by omega), h0]
  · rw [Nat.zero_add, hr.cell (by omega), h1]
  · rw [Nat.zero_add, hr.cell (by omega)]

theorem far3 {w : World} {b g i j l : Nat} (o : Nat) (h : b ≠ g) (u v x : Value) : (((w.setCell ⟨g, i, none⟩ u).setCell ⟨g, j, none⟩ v).setCell ⟨g, l, none⟩ x).cell? ⟨b, o, none⟩ = w.cell? ⟨b, o, none⟩ :=
  World.cell?_of_block (w := w) ((Below.heap_setCell _ ⟨g, l, none⟩ x b h).trans ((Below.heap_setCell _ ⟨g, j, none⟩ v b h).trans (Below.heap_setCell _ ⟨g, i, none⟩ u b h)))

/-- It hands back a log that reads as the one that came in; nothing that was there turns. -/
def CopiedL (n : Nat) (T : Nat → Int) (N : Nat → Bool) (M : Nat → Nat) (B : Nat → Nat → Int) (w : World) (e : Ending) (w' : World) : Prop :=
  ∃ a cap, e = .returned (.slice a n cap) ∧ LogAt w' (.slice a n cap) n T N M B ∧ Below w.heap.size w w'

set_option maxHeartbeats 1000000 in
theorem cloneLog (a : Option Addr) (n cap : Nat) (T : Nat → Int) (N : Nat → Bool) (M : Nat → Nat) (B : Nat → Nat → Int) (w : World) (h : LogAt w (.slice a n cap) n T N M B) (hn : n ≤ 32768) (hM : ∀ i, i < n → M i ≤ 1048576) :
    Calls Try.prog 11 #[.slice a n cap] w (CopiedL n T N M B w) := by
  have hnil := fun (w : World) (a : Option Addr) (n c n' c' : Nat) => Lib.run_eql_slice_nil (P := Try.prog) w 22 39 a n c n' c' Try.underlying22
  have hmk := make3 22 39 Try.underlying22 info39 n (by omega)
  obtain ⟨a, cap, hv, _, h⟩ := h
  cases hv
  cases a with
  | none =>
    have hn0 : n = 0 := by rcases h with h | ⟨_, _, h, _⟩ <;> simp_all
    subst hn0
    go_enter Try.func11, Try.ntmps11
    go_wp2_with fail
    go_ret
    exact ⟨none, 0, rfl, ⟨none, 0, rfl, Nat.le_refl _, .inl rfl⟩, Below.refl _ _⟩
  | some x =>
    go_enter Try.func11, Try.ntmps11
    go_wp2_with fail
    go_loopw [4] (fun i wr => ∃ k : Nat, k ≤ n ∧ i = .int .i64 k ∧ Below w.heap.size w wr ∧ Own w.heap.size 39 n k T N M B wr) (fun i _ => n - (intOf i).toNat)
    case atStart =>
      obtain ⟨f, hf⟩ := row_zrow w n 39
      exact ⟨0, Nat.zero_le _, rfl, (Below.refl _ _).alloc (Nat.le_refl _) _, f, hf, fun i hi => by omega⟩
    case round =>
      obtain ⟨k, hk, rfl, hb, hown⟩ := hrel
      by_cases hlt : k < n
      · rcases h with h | ⟨b, off, hx, h⟩
        · omega
        cases hx
        obtain ⟨c, s0, s1, s2, ca, cc, rfl, hc⟩ := h k hlt
        have hbl : b < w.heap.size := World.block_lt_of_cell? _ _ s0
        have t0 := keep hb s0
        have t1 := keep hb s1
        have t2 := keep hb s2
        have HC : Hid (BytesAt 0 wr.drew (.slice ca (M k) cc) (M k) (B k)) := (BytesAt.below ⟨ca, cc, rfl, hc⟩ hb).below (Below.refl _ _).drew
        have hMk := hM k hlt
        have hgl : w.heap.size < wr.heap.size := hown.elim fun f hf => hf.1.lt
        have HO : Hid (Own w.heap.size 39 n k T N M B wr.drew) := hown
        have hne : b ≠ w.heap.size := by omega
        clear s0 s1 s2 hc h hM hmk hnil hown
        have hk0 : (0 : Int) ≤ (k : Int) := by omega
        have hk1 : (k : Int) < (n : Int) := by omega
        go_wp2_with fail
        go_region_held3 (fun w' => w'.cell? ⟨b, off + k * 3, none⟩ = some (.int .u64 (T k)) ∧ w'.cell? ⟨b, off + k * 3 + 1, none⟩ = some (.bool (N k)) ∧ w'.cell? ⟨b, off + k * 3 + 2, none⟩ = some (.slice ca (M k) cc))
          (first | exact ⟨t0, t1, t2⟩ | exact ⟨keep hb1 t0, keep hb1 t1, keep hb1 t2⟩ | exact ⟨(far3 _ hne _ _ _).trans (keep hb1 t0), (far3 _ hne _ _ _).trans (keep hb1 t1), (far3 _ hne _ _ _).trans (keep hb1 t2)⟩)
          ((go_at_call 24; refine (Clone.cloneBytes _ (M k) (B k) _ HC.out hMk).mono ?_; rintro e w1 ⟨_, rfl, ⟨ca1, cc1, rfl, hc1⟩, hb1⟩; have HO1 : Hid (Own w.heap.size 39 n k T N M B w1) := HO.out.below hb1; obtain ⟨f1, hr1, _⟩ := HO1.out; have d0 := hr1.cell (i := k * 3) (by omega); have d1 := hr1.cell (i := k * 3 + 1) (by omega); have d2 := hr1.cell (i := k * 3 + 2) (by omega); have z0 := hr1.frozen (k * 3); have z1 := hr1.frozen (k * 3 + 1); have z2 := hr1.frozen (k * 3 + 2); clear hr1))
        clear d0 d1 d2 z0 z1 z2
        go_wp2_with fail
        exact ⟨⟨k + 1, by omega, by go_num, ((LogB.step hb.drew hb1).setCell (Nat.le_refl _) _ |>.setCell (Nat.le_refl _) _).setCell (Nat.le_refl _) _, HO1.out.set _ (BytesAt.mono ⟨ca1, cc1, rfl, hc1⟩ hgl)⟩, by simp [intOf]; omega⟩
      · have hkn : k = n := by omega
        subst hkn
        have HO : Hid (Own w.heap.size 39 k k T N M B wr) := hown
        clear hmk hnil hown h hM
        go_wp2_with fail
        go_ret
        exact ⟨_, k, rfl, HO.out.log, hb⟩

set_option maxHeartbeats 1000000 in
theorem entries (a : Option Addr) (n cap : Nat) (T : Nat → Int) (N : Nat → Bool) (M : Nat → Nat) (B : Nat → Nat → Int) (w : World) (h : LogAt w (.slice a n cap) n T N M B) (hn : n ≤ 32768) (hM : ∀ i, i < n → M i ≤ 1048576) :
    Calls Try.prog 13 #[.slice a n cap] w (CopiedL n T N M B w) := by
  have hnil := fun (w : World) (a : Option Addr) (n c n' c' : Nat) => Lib.run_eql_slice_nil (P := Try.prog) w 22 39 a n c n' c' Try.underlying22
  have hmk := make3 29 37 Try.underlying29 info37 n (by omega)
  obtain ⟨a, cap, hv, _, h⟩ := h
  cases hv
  cases a with
  | none =>
    have hn0 : n = 0 := by rcases h with h | ⟨_, _, h, _⟩ <;> simp_all
    subst hn0
    go_enter Try.func13, Try.ntmps13
    go_wp2_with fail
    go_ret
    exact ⟨none, 0, rfl, ⟨none, 0, rfl, Nat.le_refl _, .inl rfl⟩, Below.refl _ _⟩
  | some x =>
    go_enter Try.func13, Try.ntmps13
    go_wp2_with fail
    go_loopw [4] (fun i wr => ∃ k : Nat, k ≤ n ∧ i = .int .i64 k ∧ Below w.heap.size w wr ∧ Own w.heap.size 37 n k T N M B wr) (fun i _ => n - (intOf i).toNat)
    case atStart =>
      obtain ⟨f, hf⟩ := row_zrow w n 37
      exact ⟨0, Nat.zero_le _, rfl, (Below.refl _ _).alloc (Nat.le_refl _) _, f, hf, fun i hi => by omega⟩
    case round =>
      obtain ⟨k, hk, rfl, hb, hown⟩ := hrel
      by_cases hlt : k < n
      · rcases h with h | ⟨b, off, hx, h⟩
        · omega
        cases hx
        obtain ⟨c, s0, s1, s2, ca, cc, rfl, hc⟩ := h k hlt
        have hbl : b < w.heap.size := World.block_lt_of_cell? _ _ s0
        have t0 := keep hb s0
        have t1 := keep hb s1
        have t2 := keep hb s2
        have HC : Hid (BytesAt 0 wr.drew (.slice ca (M k) cc) (M k) (B k)) := (BytesAt.below ⟨ca, cc, rfl, hc⟩ hb).below (Below.refl _ _).drew
        have hMk := hM k hlt
        have hgl : w.heap.size < wr.heap.size := hown.elim fun f hf => hf.1.lt
        have HO : Hid (Own w.heap.size 37 n k T N M B wr.drew) := hown
        have hne : b ≠ w.heap.size := by omega
        clear s0 s1 s2 hc h hM hmk hnil hown
        have hk0 : (0 : Int) ≤ (k : Int) := by omega
        have hk1 : (k : Int) < (n : Int) := by omega
        go_wp2_with fail
        go_region_held3 (fun w' => w'.cell? ⟨b, off + k * 3, none⟩ = some (.int .u64 (T k)) ∧ w'.cell? ⟨b, off + k * 3 + 1, none⟩ = some (.bool (N k)) ∧ w'.cell? ⟨b, off + k * 3 + 2, none⟩ = some (.slice ca (M k) cc))
          (first | exact ⟨t0, t1, t2⟩ | exact ⟨keep hb1 t0, keep hb1 t1, keep hb1 t2⟩ | exact ⟨(far3 _ hne _ _ _).trans (keep hb1 t0), (far3 _ hne _ _ _).trans (keep hb1 t1), (far3 _ hne _ _ _).trans (keep hb1 t2)⟩)
          ((go_at_call 24; refine (Clone.cloneBytes _ (M k) (B k) _ HC.out hMk).mono ?_; rintro e w1 ⟨_, rfl, ⟨ca1, cc1, rfl, hc1⟩, hb1⟩; have HO1 : Hid (Own w.heap.size 37 n k T N M B w1) := HO.out.below hb1; obtain ⟨f1, hr1, _⟩ := HO1.out; have d0 := hr1.cell (i := k * 3) (by omega); have d1 := hr1.cell (i := k * 3 + 1) (by omega); have d2 := hr1.cell (i := k * 3 + 2) (by omega); have z0 := hr1.frozen (k * 3); have z1 := hr1.frozen (k * 3 + 1); have z2 := hr1.frozen (k * 3 + 2); clear hr1))
        clear d0 d1 d2 z0 z1 z2
        go_wp2_with fail
        exact ⟨⟨k + 1, by omega, by go_num, ((LogB.step hb.drew hb1).setCell (Nat.le_refl _) _ |>.setCell (Nat.le_refl _) _).setCell (Nat.le_refl _) _, HO1.out.set _ (BytesAt.mono ⟨ca1, cc1, rfl, hc1⟩ hgl)⟩, by simp [intOf]; omega⟩
      · have hkn : k = n := by omega
        subst hkn
        have HO : Hid (Own w.heap.size 37 k k T N M B wr) := hown
        clear hmk hnil hown h hM
        go_wp2_with fail
        go_ret
        exact ⟨_, k, rfl, HO.out.log, hb⟩

end Go.Proofs.Qxb6617010a.CloneL
