import Derived.Test.Qxb6617010aNodeL
import Derived.Test.Qxb6617010aCloneLog
import Derived.Deep.Slices
import Derived.Deep.AppendLies
namespace Go.Proofs.Qxb6617010a.Commit
open Go.RowKit Go.Deep Go.Proofs.Qxb6617010a.LogB Go.Proofs.Qxb6617010a.NodeL
attribute [local go_sem ↓] Go.wp_at_zero Go.wp_at_succ

/-- Cell j of a row of entries, C i being the cell of entry i's command. -/
def cellOf (T : Nat → Int) (N : Nat → Bool) (C : Nat → Value) (j : Nat) : Value := if j % 3 = 0 then .int .u64 (T (j / 3)) else if j % 3 = 1 then .bool (N (j / 3)) else C (j / 3)
def cellsOf (k : Nat) (T : Nat → Int) (N : Nat → Bool) (C : Nat → Value) : List Value := (List.range (k * 3)).map (cellOf T N C)

theorem cellsOf_length (k : Nat) (T : Nat → Int) (N : Nat → Bool) (C : Nat → Value) : (cellsOf k T N C).length = k * 3 := by simp [cellsOf]

theorem cellsOf_at {k : Nat} {T : Nat → Int} {N : Nat → Bool} {C : Nat → Value} {j : Nat} (hj : j < k * 3) : (cellsOf k T N C)[j]? = some (cellOf T N C j) := by simp [cellsOf, hj]

theorem cells_of_ents {w : World} {b off n : Nat} {T : Nat → Int} {N : Nat → Bool} {M : Nat → Nat} {B : Nat → Nat → Int} (h : Ents w b off n T N M B) :
    ∃ C : Nat → Value, (∀ i, i < n → BytesAt 0 w (C i) (M i) (B i)) ∧ ∀ j u, (cellsOf n T N C)[j]? = some u → w.cell? ((⟨b, off, none⟩ : Addr).add j) = some u := by
  obtain ⟨C, hC⟩ := choose_lt (α := Value) h
  refine ⟨C, fun i hi => (hC i hi).2.2.2, fun j u hu => ?_⟩
  have hj : j < n * 3 := by
    have := (List.getElem?_eq_some_iff.1 hu).1
    rwa [cellsOf_length] at this
  rw [cellsOf_at hj] at hu
  cases hu
  have hadd : (⟨b, off, none⟩ : Addr).add j = ⟨b, off + j, none⟩ := by unfold Addr.add; split <;> simp_all
  rw [hadd]
  obtain ⟨h0, h1, h2, _⟩ := hC (j / 3) (by omega)
  unfold cellOf
  rcases (by omega : j % 3 = 0 ∨ j % 3 = 1 ∨ j % 3 = 2) with h | h | h
  · rw [if_pos h, ← h0]
    congr 2
    omega
  · rw [if_neg (by omega), if_pos h, ← h1]
    congr 2
    omega
  · rw [if_neg (by omega), if_neg (by omega), ← h2]
    congr 2
    omega

theorem log_of_owns {w : World} {lo k : Nat} {v : Value} {T : Nat → Int} {N : Nat → Bool} {M : Nat → Nat} {B : Nat → Nat → Int} {C : Nat → Value} (h : w.ownsRow lo 37 3 v k (cellsOf k T N C)) (hC : ∀ i, i < k → BytesAt 0 w (C i) (M i) (B i)) : LogAt w v k T N M B := by
  rcases h.2 with ⟨rfl, rfl⟩ | ⟨g, cap, cur, rfl, _, hg, hc, _, hs, ht⟩
  · exact ⟨none, 0, rfl, Nat.le_refl _, .inl rfl⟩
  · refine ⟨_, cap, rfl, hc, .inr ⟨g, 0, rfl, fun i hi => ⟨C i, ?_, ?_, ?_, hC i hi⟩⟩⟩
    all_goals
      have key : ∀ j, j < k * 3 → w.cell? ⟨g, 0 + j, none⟩ = some (cellOf T N C j) := fun j hj => by
        have := congrArg (fun l : List Value => l[j]?) ht
        simp only [List.getElem?_take_of_lt hj, cellsOf_at hj] at this
        simp only [World.cell?, hg, Nat.zero_add]
        simpa using this
    · rw [key _ (by omega)]
      simp [cellOf]
    · rw [Nat.add_assoc, key _ (by omega)]
      simp [cellOf, show (i * 3 + 1) % 3 = 1 by omega, show (i * 3 + 1) / 3 = i by omega]
    · rw [Nat.add_assoc, key _ (by omega)]
      simp [cellOf, show (i * 3 + 2) % 3 = 2 by omega, show (i * 3 + 2) / 3 = i by omega]

theorem one_cells {k : Nat} {w : World} {T : Nat → Int} {N : Nat → Bool} {M : Nat → Nat} {B : Nat → Nat → Int} {C : Nat → Value} (hC : ∀ i, i < k → BytesAt 0 w (C i) (M i) (B i)) : ∀ u ∈ cellsOf k T N C, u.oneCell' = true := by
  intro u hu
  obtain ⟨j, hj, rfl⟩ := List.mem_map.1 hu
  have hj' : j < k * 3 := by simpa using hj
  unfold cellOf
  split
  · rfl
  · split
    · rfl
    · obtain ⟨a, cap, h, _⟩ := hC (j / 3) (by omega)
      rw [h]
      rfl

theorem i37 : Try.prog.info? 37 = some Try.t37 := by kernel_rfl
theorem i37z : Try.t37.zero = some (.agg #[.int .u64 0, .bool false, .slice none 0 0]) := by kernel_rfl
theorem i37s : Try.t37.size = 3 := by kernel_rfl
theorem i37b : Try.t37.bytes = 40 := by kernel_rfl

/-- It hands back a copy of the k entries in a row of its own. -/
def Cloned (k : Nat) (T : Nat → Int) (N : Nat → Bool) (M : Nat → Nat) (B : Nat → Nat → Int) (w : World) (e : Ending) (w' : World) : Prop :=
  ∃ a cap xs, e = .returned (.slice a k cap) ∧ w'.ownsRow w.heap.size 37 3 (.slice a k cap) k xs ∧ LogAt w' (.slice a k cap) k T N M B ∧ Below w.heap.size w w'

set_option maxHeartbeats 400000 in
theorem clone (a : Option Addr) (k cap : Nat) (T : Nat → Int) (N : Nat → Bool) (M : Nat → Nat) (B : Nat → Nat → Int) (w : World) (h : LogAt w (.slice a k cap) k T N M B) (hk : k ≤ 32768) :
    Calls Try.prog 28 #[.slice a k cap] w (Cloned k T N M B w) := by
  have hnil := fun (w : World) (a : Option Addr) (n c n' c' : Nat) => Lib.run_eql_slice_nil (P := Try.prog) w 29 37 a n c n' c' Try.underlying29
  obtain ⟨a, cap, hv, _, h⟩ := h
  cases hv
  cases a with
  | none =>
    have hk0 : k = 0 := by rcases h with h | ⟨_, _, h, _⟩ <;> simp_all
    subst hk0
    go_enter Try.func28, Try.ntmps28
    go_wp2_with fail
    go_ret
    exact ⟨none, 0, [], rfl, World.ownsRow_nil _ _ _ _, ⟨none, 0, rfl, Nat.le_refl _, .inl rfl⟩, Below.refl _ _⟩
  | some x =>
    have hsrc : ∃ C : Nat → Value, (∀ i, i < k → BytesAt 0 w (C i) (M i) (B i)) ∧ ∀ j u, (cellsOf k T N C)[j]? = some u → w.cell? (x.add j) = some u := by
      rcases h with h | ⟨b, off, hx, h⟩
      · exact ⟨fun _ => .slice none 0 0, fun i hi => by omega, fun j u hu => by simp [cellsOf, h] at hu⟩
      · cases hx
        exact cells_of_ents h
    obtain ⟨C, hC, hcell⟩ := hsrc
    have HC : Hid (∀ i, i < k → BytesAt 0 w (C i) (M i) (B i)) := hC
    have HX : Hid (∀ j u, (cellsOf k T N C)[j]? = some u → w.cell? (x.add j) = some u) := hcell
    clear hC hcell h
    have hb0 : Below w.heap.size w (w.alloc (Obj.cells #[] 37)) := (Below.refl _ _).alloc (Nat.le_refl _) _
    have HN : Hid (∀ j u, (cellsOf k T N C)[j]? = some u → (w.alloc (Obj.cells #[] 37)).cell? (x.add j) = some u) := fun j u hu => keep hb0 (HX.out j u hu)
    have HE : Hid ((w.alloc (Obj.cells #[] 37)).ownsRow w.heap.size 37 3 (.slice (some ⟨w.heap.size, 0, none⟩) 0 0) 0 []) := ⟨rfl, .inr ⟨w.heap.size, 0, #[], rfl, Nat.le_refl _, blk_alloc_new _ _, Nat.le_refl _, Nat.zero_le _, rfl, rfl⟩⟩
    have H1 : Hid (∀ u ∈ cellsOf k T N C, u.oneCell' = true) := one_cells HC.out
    go_enter Try.func28, Try.ntmps28
    go_wp2_with (at_builtin; refine wpList_append_own _ rfl _ _ _ rfl w.heap.size 37 Try.t37 (.agg #[.int .u64 0, .bool false, .slice none 0 0]) 3 40 Try.underlying29 i37 i37z i37s i37b rfl (by omega) (.slice (some ⟨w.heap.size, 0, none⟩) 0 0) 0 [] rfl HE.out x k cap (cellsOf k T N C) rfl (cellsOf_length _ _ _ _) HN.out H1.out (by unfold maxLen; omega) (by omega) (by simp) ?_; intro v' w1 hown1 hgrow hiff)
    go_ret
    have hown2 : w1.ownsRow w.heap.size 37 3 v' k (cellsOf k T N C) := by simpa using hown1
    have hb1 : Below w.heap.size w w1 := hb0.grown hgrow (by simp) (fun j hj => by simp [Value.ownBlock] at hj; omega)
    have hlog := log_of_owns hown2 (fun i hi => (HC.out i hi).below hb1)
    have hform : ∃ a c, v' = .slice a k c := by obtain ⟨a, c, h, _⟩ := hlog; exact ⟨a, c, h⟩
    obtain ⟨a', c', rfl⟩ := hform
    exact ⟨a', c', _, rfl, hown2, hlog, hb1⟩

/-- The first k of n entries. -/
theorem log_take {w : World} {a : Option Addr} {n k cap : Nat} {T : Nat → Int} {N : Nat → Bool} {M : Nat → Nat} {B : Nat → Nat → Int} (h : LogAt w (.slice a n cap) n T N M B) (hk : k ≤ n) : LogAt w (.slice a k cap) k T N M B := by
  obtain ⟨a', cap', hv, hc, h⟩ := h
  cases hv
  refine ⟨a, cap, rfl, by omega, ?_⟩
  rcases h with h | ⟨b, off, ha, h⟩
  · exact .inl (by omega)
  · exact .inr ⟨b, off, ha, fun i hi => h i (by omega)⟩

set_option maxHeartbeats 400000 in
/-- The commit index lies inside the log. -/
theorem committed_in (b : Nat) (a : Option Addr) (n cap : Nat) (k : Nat) (T : Nat → Int) (N : Nat → Bool) (M : Nat → Nat) (B : Nat → Nat → Int) (w : World) (hn : n ≤ 32768) (h : NodeAt b (.slice a n cap) (k : Int) w) (hl : LogAt w (.slice a n cap) n T N M B) (hk : (k : Int) < (n : Int)) :
    Calls Try.prog 14 #[.pointer (some ⟨b, 0, none⟩)] w (Cloned k T N M B w) := by
  have HL : Hid (LogAt w.drew (.slice a k cap) k T N M B) := (log_take hl (by omega)).below (Below.refl _ _).drew
  have HN : Hid (NodeAt b (.slice a n cap) (k : Int) w.drew) := ⟨h.lt, h.log, h.ci⟩
  have hnc : n ≤ cap := by obtain ⟨a', cap', hv, hc, _⟩ := hl; cases hv; exact hc
  have i0 : (0 : Int) ≤ (k : Int) := by omega
  have i1 : (k : Int) ≤ (cap : Int) := by omega
  have i2 : k ≤ cap := by omega
  have i3 : k < n := by omega
  have i4 : ¬ n < k := by omega
  have i5 : min k n = k := by omega
  have i6 : min (k : Int) (n : Int) = (k : Int) := by omega
  obtain ⟨hlt, hlog, hci⟩ := h
  clear hl
  go_enter Try.func14, Try.ntmps14
  go_wp2_with fail
  go_region_held3 (fun w' => w'.cell? ⟨b, 21, none⟩ = some (.slice a n cap) ∧ w'.cell? ⟨b, 22, none⟩ = some (.int .u64 (k : Int)))
    (first | exact ⟨hlog, hci⟩ | exact ⟨keep hb1 hlog, keep hb1 hci⟩)
    (first | ((go_at_call 15; refine (lastIndex b a n cap (k : Int) _ (by omega) HN.out).mono ?_; rintro e w1 ⟨rfl, rfl⟩)) | ((go_at_call 28; refine (clone a k cap T N M B _ HL.out (by omega)).mono ?_; rintro e w1 ⟨a1, c1, xs1, rfl, hown1, hl1, hb1⟩)))
  go_wp2_with fail
  go_ret
  exact ⟨a1, c1, xs1, rfl, hown1, hl1, LogB.step (Below.refl _ _).drew hb1⟩

set_option maxHeartbeats 400000 in
/-- The commit index lies beyond the log's end. -/
theorem committed_out (b : Nat) (a : Option Addr) (n cap : Nat) (ci : Int) (T : Nat → Int) (N : Nat → Bool) (M : Nat → Nat) (B : Nat → Nat → Int) (w : World) (hn : n ≤ 32768) (h : NodeAt b (.slice a n cap) ci w) (hl : LogAt w (.slice a n cap) n T N M B) (hk : (n : Int) < ci) :
    Calls Try.prog 14 #[.pointer (some ⟨b, 0, none⟩)] w (Cloned n T N M B w) := by
  have HL : Hid (LogAt w.drew (.slice a n cap) n T N M B) := (log_take hl (by omega)).below (Below.refl _ _).drew
  have HN : Hid (NodeAt b (.slice a n cap) ci w.drew) := ⟨h.lt, h.log, h.ci⟩
  have hnc : n ≤ cap := by obtain ⟨a', cap', hv, hc, _⟩ := hl; cases hv; exact hc
  have i0 : (0 : Int) ≤ (n : Int) := by omega
  have i1 : (n : Int) ≤ (cap : Int) := by omega
  obtain ⟨hlt, hlog, hci⟩ := h
  clear hl
  go_enter Try.func14, Try.ntmps14
  go_wp2_with fail
  go_region_held3 (fun w' => w'.cell? ⟨b, 21, none⟩ = some (.slice a n cap) ∧ w'.cell? ⟨b, 22, none⟩ = some (.int .u64 ci))
    (first | exact ⟨hlog, hci⟩ | exact ⟨keep hb1 hlog, keep hb1 hci⟩)
    (first | ((go_at_call 15; refine (lastIndex b a n cap ci _ (by omega) HN.out).mono ?_; rintro e w1 ⟨rfl, rfl⟩)) | ((go_at_call 28; refine (clone a n cap T N M B _ HL.out (by omega)).mono ?_; rintro e w1 ⟨a1, c1, xs1, rfl, hown1, hl1, hb1⟩)))
  go_wp2_with fail
  go_ret
  exact ⟨a1, c1, xs1, rfl, hown1, hl1, LogB.step (Below.refl _ _).drew hb1⟩

set_option maxHeartbeats 400000 in
/-- The commit index is the log's length. -/
theorem committed_at (b : Nat) (a : Option Addr) (n cap : Nat) (T : Nat → Int) (N : Nat → Bool) (M : Nat → Nat) (B : Nat → Nat → Int) (w : World) (hn : n ≤ 32768) (h : NodeAt b (.slice a n cap) (n : Int) w) (hl : LogAt w (.slice a n cap) n T N M B) :
    Calls Try.prog 14 #[.pointer (some ⟨b, 0, none⟩)] w (Cloned n T N M B w) := by
  have HL : Hid (LogAt w.drew (.slice a n cap) n T N M B) := (log_take hl (by omega)).below (Below.refl _ _).drew
  have HN : Hid (NodeAt b (.slice a n cap) (n : Int) w.drew) := ⟨h.lt, h.log, h.ci⟩
  have hnc : n ≤ cap := by obtain ⟨a', cap', hv, hc, _⟩ := hl; cases hv; exact hc
  have i0 : (0 : Int) ≤ (n : Int) := by omega
  have i1 : (n : Int) ≤ (cap : Int) := by omega
  obtain ⟨hlt, hlog, hci⟩ := h
  clear hl
  go_enter Try.func14, Try.ntmps14
  go_wp2_with fail
  go_region_held3 (fun w' => w'.cell? ⟨b, 21, none⟩ = some (.slice a n cap) ∧ w'.cell? ⟨b, 22, none⟩ = some (.int .u64 (n : Int)))
    (first | exact ⟨hlog, hci⟩ | exact ⟨keep hb1 hlog, keep hb1 hci⟩)
    (first | ((go_at_call 15; refine (lastIndex b a n cap (n : Int) _ (by omega) HN.out).mono ?_; rintro e w1 ⟨rfl, rfl⟩)) | ((go_at_call 28; refine (clone a n cap T N M B _ HL.out (by omega)).mono ?_; rintro e w1 ⟨a1, c1, xs1, rfl, hown1, hl1, hb1⟩)))
  go_wp2_with fail
  go_ret
  exact ⟨a1, c1, xs1, rfl, hown1, hl1, LogB.step (Below.refl _ _).drew hb1⟩

/-- Committed hands out a copy of the first min(ci, n) entries. -/
theorem committed (b : Nat) (a : Option Addr) (n cap : Nat) (ci : Int) (T : Nat → Int) (N : Nat → Bool) (M : Nat → Nat) (B : Nat → Nat → Int) (k : Nat) (w : World) (hn : n ≤ 32768) (h : NodeAt b (.slice a n cap) ci w) (hl : LogAt w (.slice a n cap) n T N M B) (h0 : 0 ≤ ci) (hk : (k : Int) = if ci < (n : Int) then ci else (n : Int)) :
    Calls Try.prog 14 #[.pointer (some ⟨b, 0, none⟩)] w (Cloned k T N M B w) := by
  by_cases h1 : ci < (n : Int)
  · rw [if_pos h1] at hk
    subst hk
    exact committed_in b a n cap k T N M B w hn h hl h1
  · rw [if_neg h1] at hk
    have hkn : k = n := by omega
    subst hkn
    by_cases h2 : (k : Int) < ci
    · exact committed_out b a k cap ci T N M B w hn h hl h2
    · have : ci = (k : Int) := by omega
      subst this
      exact committed_at b a k cap T N M B w hn h hl

end Go.Proofs.Qxb6617010a.Commit
