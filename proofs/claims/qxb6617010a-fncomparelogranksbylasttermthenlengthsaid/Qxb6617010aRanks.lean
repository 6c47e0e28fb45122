import Derived.Test.Qxb6617010aFits
import Derived.Test.Qxb6617010aCloneLog
import Derived.Test.Qxb6617010aCompare
namespace Go.Proofs.Qxb6617010a.Ranks
open Go.RowKit Go.Deep Go.Proofs.Qxb6617010a.LogB Go.Proofs.Qxb6617010a.NodeL Go.Proofs.Qxb6617010a.Compare

/-- It answers true; nothing that was there turns. -/
def Yes (w : World) (e : Ending) (w' : World) : Prop := e = .returned (.bool true) ∧ Below w.heap.size w w'

/-- The first field of an entry. -/
theorem field0 (t : Int) (b : Bool) (a : Option Addr) (m c : Nat) (w : World) : (Instr.field 37 (.agg #[.int .u64 t, .bool b, .slice a m c]) 0).run Try.prog w = .ok (.int .u64 t) w := by kernel_rfl

theorem lastT_zero {n : Nat} {T : Nat → Int} (h : n = 0) : lastT n T = 0 := by simp [lastT, h]
theorem lastT_const {n : Nat} (h : 0 < n) (t : Int) : lastT n (fun _ => t) = t := by unfold lastT; rw [if_neg (by omega)]

set_option maxHeartbeats 1000000 in
theorem walk_pos_zero (a : Option Addr) (n cap : Nat) (lt : Int) (T : Nat → Int) (N : Nat → Bool) (M : Nat → Nat) (B : Nat → Nat → Int) (w : World) (h : LogAt w (.slice a n cap) n T N M B) (hn : n ≤ maxLen) (hM : ∀ i, i < n → M i ≤ maxLen) (hz : (0 : Int) < (n : Int)) :
    Calls Try.prog 5 #[.slice a n cap, .int .u64 lt, .int .u64 0] w (Yes w) := by
  have HL : Hid (LogAt w (.slice a n cap) n T N M B) := h
  have HM : Hid (∀ i, i < n → M i ≤ maxLen) := hM
  clear h hM
  go_enter Try.func5, Try.ntmps5
  go_wp2_with fail
  refine (Fits.zzBytes19 a n cap _ _ T N M B _ HL.out hn HM.out).mono ?_
  rintro e w1 ⟨r, rfl, rfl, hr⟩
  cases r with
  | false =>
    go_wp2_with fail
    go_ret
    exact ⟨rfl, Below.refl _ _⟩
  | true =>
  have HB : Hid (∀ i, i < n → M i ≤ 1048576) := hr rfl
  clear hr
  go_wp2_with fail
  refine (Fits.logFits a n cap T N M B _ HL.out hn HB.out).mono ?_
  rintro e w1 ⟨r, rfl, rfl, hr⟩
  cases r with
  | false =>
    go_wp2_with fail
    go_ret
    exact ⟨rfl, Below.refl _ _⟩
  | true =>
  have hn2 : n ≤ 32768 := hr rfl
  have hn3 : n ≤ 1048576 := by omega
  clear hr
  go_wp2_with fail
  refine (CloneL.cloneLog a n cap T N M B _ HL.out hn2 HB.out).mono ?_
  rintro e w2 ⟨a2, cap2, rfl, hl2, hb2⟩
  have HL2 : Hid (LogAt w2 (.slice a2 n cap2) n T N M B) := hl2
  clear hl2
  go_wp2_with fail
  refine (CloneL.entries a2 n cap2 T N M B _ HL2.out hn2 HB.out).mono ?_
  rintro e w3 ⟨a3, cap3, rfl, hl3, hb3⟩
  have HL3 : Hid (LogAt w3 (.slice a3 n cap3) n T N M B) := hl3
  clear hl3
  go_wp2_with fail
  refine (newNode a3 n cap3 _ _).mono ?_
  rintro e w4 ⟨rfl, hn4, hb4⟩
  have HN4 : Hid (NodeAt w3.heap.size (.slice a3 n cap3) 0 w4) := hn4
  have HL4 : Hid (LogAt w4 (.slice a3 n cap3) n T N M B) := HL3.out.below hb4
  have HG4 : Hid (LogAt w4 (.slice a2 n cap2) n T N M B) := (HL2.out.below hb3).below hb4
  have hb04 : Below w1.heap.size w1 w4 := LogB.step (LogB.step hb2 hb3) hb4
  clear hn4 HL3 HL2 hb2 hb3 hb4 HM HL
  go_wp2_with fail
  refine (zcompareLog w3.heap.size a3 n cap3 0 lt 0 T N M B _ hn3 HN4.out HL4.out).mono ?_
  rintro e w5 ⟨rfl, rfl⟩
  go_wp2_with fail
  refine (lawLastTerm a2 n cap2 T N M B _ hn3 HG4.out).mono ?_
  rintro e w5 ⟨rfl, rfl⟩
  go_wp2_with fail
  refine (lawCompare _ _ _ _ _).mono ?_
  rintro e w5 ⟨rfl, rfl⟩
  go_wp2_with fail
  refine (lastIndex w3.heap.size a3 n cap3 0 _ hn3 HN4.out).mono ?_
  rintro e w5 ⟨rfl, rfl⟩
  go_wp2_with fail
  refine (entryLast w3.heap.size a3 n cap3 0 T N M B _ hn3 HN4.out HL4.out (by omega)).mono ?_
  rintro e w6 ⟨a6, c6, rfl, hl6, hb6⟩
  have HN6 : Hid (NodeAt w3.heap.size (.slice a3 n cap3) 0 w6) := HN4.out.below hb6
  have HL6 : Hid (LogAt w6 (.slice a3 n cap3) n T N M B) := HL4.out.below hb6
  have hb06 := LogB.step hb04 hb6
  have hf0 := field0 (lastT n T) (N (n - 1)) a6 (M (n - 1)) c6
  clear hl6 hb04 hb6 HN4 HL4 HG4
  go_wp2_with fail
  clear hf0
  refine (zcompareLog w3.heap.size a3 n cap3 0 (lastT n T) n T N M B _ hn3 HN6.out HL6.out).mono ?_
  rintro e w7 ⟨rfl, rfl⟩
  rw [lex_self]
  go_wp2_with fail
  go_ret
  exact ⟨rfl, hb06⟩

set_option maxHeartbeats 1000000 in
theorem walk_pos_far (a : Option Addr) (n cap : Nat) (lt li : Int) (T : Nat → Int) (N : Nat → Bool) (M : Nat → Nat) (B : Nat → Nat → Int) (w : World) (h : LogAt w (.slice a n cap) n T N M B) (hn : n ≤ maxLen) (hM : ∀ i, i < n → M i ≤ maxLen) (hz : (0 : Int) < (n : Int)) (hli : 4096 < li) :
    Calls Try.prog 5 #[.slice a n cap, .int .u64 lt, .int .u64 li] w (Yes w) := by
  have HL : Hid (LogAt w (.slice a n cap) n T N M B) := h
  have HM : Hid (∀ i, i < n → M i ≤ maxLen) := hM
  clear h hM
  have hli0 : 0 < li := by omega
  go_enter Try.func5, Try.ntmps5
  go_wp2_with fail
  refine (Fits.zzBytes19 a n cap _ _ T N M B _ HL.out hn HM.out).mono ?_
  rintro e w1 ⟨r, rfl, rfl, hr⟩
  cases r with
  | false =>
    go_wp2_with fail
    go_ret
    exact ⟨rfl, Below.refl _ _⟩
  | true =>
  have HB : Hid (∀ i, i < n → M i ≤ 1048576) := hr rfl
  clear hr
  go_wp2_with fail
  refine (Fits.logFits a n cap T N M B _ HL.out hn HB.out).mono ?_
  rintro e w1 ⟨r, rfl, rfl, hr⟩
  cases r with
  | false =>
    go_wp2_with fail
    go_ret
    exact ⟨rfl, Below.refl _ _⟩
  | true =>
  have hn2 : n ≤ 32768 := hr rfl
  have hn3 : n ≤ 1048576 := by omega
  clear hr
  go_wp2_with fail
  refine (CloneL.cloneLog a n cap T N M B _ HL.out hn2 HB.out).mono ?_
  rintro e w2 ⟨a2, cap2, rfl, hl2, hb2⟩
  have HL2 : Hid (LogAt w2 (.slice a2 n cap2) n T N M B) := hl2
  clear hl2
  go_wp2_with fail
  refine (CloneL.entries a2 n cap2 T N M B _ HL2.out hn2 HB.out).mono ?_
  rintro e w3 ⟨a3, cap3, rfl, hl3, hb3⟩
  have HL3 : Hid (LogAt w3 (.slice a3 n cap3) n T N M B) := hl3
  clear hl3
  go_wp2_with fail
  refine (newNode a3 n cap3 _ _).mono ?_
  rintro e w4 ⟨rfl, hn4, hb4⟩
  have HN4 : Hid (NodeAt w3.heap.size (.slice a3 n cap3) 0 w4) := hn4
  have HL4 : Hid (LogAt w4 (.slice a3 n cap3) n T N M B) := HL3.out.below hb4
  have HG4 : Hid (LogAt w4 (.slice a2 n cap2) n T N M B) := (HL2.out.below hb3).below hb4
  have hb04 : Below w1.heap.size w1 w4 := LogB.step (LogB.step hb2 hb3) hb4
  clear hn4 HL3 HL2 hb2 hb3 hb4 HM HL
  go_wp2_with fail
  refine (zcompareLog w3.heap.size a3 n cap3 0 lt li T N M B _ hn3 HN4.out HL4.out).mono ?_
  rintro e w5 ⟨rfl, rfl⟩
  go_wp2_with fail
  refine (lawLastTerm a2 n cap2 T N M B _ hn3 HG4.out).mono ?_
  rintro e w5 ⟨rfl, rfl⟩
  go_wp2_with fail
  refine (lawCompare _ _ _ _ _).mono ?_
  rintro e w5 ⟨rfl, rfl⟩
  go_wp2_with fail
  refine (lastIndex w3.heap.size a3 n cap3 0 _ hn3 HN4.out).mono ?_
  rintro e w5 ⟨rfl, rfl⟩
  go_wp2_with fail
  refine (entryLast w3.heap.size a3 n cap3 0 T N M B _ hn3 HN4.out HL4.out (by omega)).mono ?_
  rintro e w6 ⟨a6, c6, rfl, hl6, hb6⟩
  have HN6 : Hid (NodeAt w3.heap.size (.slice a3 n cap3) 0 w6) := HN4.out.below hb6
  have HL6 : Hid (LogAt w6 (.slice a3 n cap3) n T N M B) := HL4.out.below hb6
  have hb06 := LogB.step hb04 hb6
  have hf0 := field0 (lastT n T) (N (n - 1)) a6 (M (n - 1)) c6
  clear hl6 hb04 hb6 HN4 HL4 HG4
  go_wp2_with fail
  clear hf0
  refine (zcompareLog w3.heap.size a3 n cap3 0 (lastT n T) n T N M B _ hn3 HN6.out HL6.out).mono ?_
  rintro e w7 ⟨rfl, rfl⟩
  rw [lex_self]
  go_wp2_with fail
  go_ret
  exact ⟨rfl, hb06⟩

set_option maxHeartbeats 1000000 in
theorem walk_pos_in (a : Option Addr) (n cap : Nat) (L : Nat) (lt : Int) (T : Nat → Int) (N : Nat → Bool) (M : Nat → Nat) (B : Nat → Nat → Int) (w : World) (h : LogAt w (.slice a n cap) n T N M B) (hn : n ≤ maxLen) (hM : ∀ i, i < n → M i ≤ maxLen) (hz : (0 : Int) < (n : Int)) (hL0 : 0 < L) (hL1 : L ≤ 4096) :
    Calls Try.prog 5 #[.slice a n cap, .int .u64 lt, .int .u64 L] w (Yes w) := by
  have HL : Hid (LogAt w (.slice a n cap) n T N M B) := h
  have HM : Hid (∀ i, i < n → M i ≤ maxLen) := hM
  clear h hM
  go_enter Try.func5, Try.ntmps5
  go_wp2_with fail
  refine (Fits.zzBytes19 a n cap _ _ T N M B _ HL.out hn HM.out).mono ?_
  rintro e w1 ⟨r, rfl, rfl, hr⟩
  cases r with
  | false =>
    go_wp2_with fail
    go_ret
    exact ⟨rfl, Below.refl _ _⟩
  | true =>
  have HB : Hid (∀ i, i < n → M i ≤ 1048576) := hr rfl
  clear hr
  go_wp2_with fail
  refine (Fits.logFits a n cap T N M B _ HL.out hn HB.out).mono ?_
  rintro e w1 ⟨r, rfl, rfl, hr⟩
  cases r with
  | false =>
    go_wp2_with fail
    go_ret
    exact ⟨rfl, Below.refl _ _⟩
  | true =>
  have hn2 : n ≤ 32768 := hr rfl
  have hn3 : n ≤ 1048576 := by omega
  clear hr
  go_wp2_with fail
  refine (CloneL.cloneLog a n cap T N M B _ HL.out hn2 HB.out).mono ?_
  rintro e w2 ⟨a2, cap2, rfl, hl2, hb2⟩
  have HL2 : Hid (LogAt w2 (.slice a2 n cap2) n T N M B) := hl2
  clear hl2
  go_wp2_with fail
  refine (CloneL.entries a2 n cap2 T N M B _ HL2.out hn2 HB.out).mono ?_
  rintro e w3 ⟨a3, cap3, rfl, hl3, hb3⟩
  have HL3 : Hid (LogAt w3 (.slice a3 n cap3) n T N M B) := hl3
  clear hl3
  go_wp2_with fail
  refine (newNode a3 n cap3 _ _).mono ?_
  rintro e w4 ⟨rfl, hn4, hb4⟩
  have HN4 : Hid (NodeAt w3.heap.size (.slice a3 n cap3) 0 w4) := hn4
  have HL4 : Hid (LogAt w4 (.slice a3 n cap3) n T N M B) := HL3.out.below hb4
  have HG4 : Hid (LogAt w4 (.slice a2 n cap2) n T N M B) := (HL2.out.below hb3).below hb4
  have hb04 : Below w1.heap.size w1 w4 := LogB.step (LogB.step hb2 hb3) hb4
  clear hn4 HL3 HL2 hb2 hb3 hb4 HM HL
  go_wp2_with fail
  refine (zcompareLog w3.heap.size a3 n cap3 0 lt L T N M B _ hn3 HN4.out HL4.out).mono ?_
  rintro e w5 ⟨rfl, rfl⟩
  go_wp2_with fail
  refine (lawLastTerm a2 n cap2 T N M B _ hn3 HG4.out).mono ?_
  rintro e w5 ⟨rfl, rfl⟩
  go_wp2_with fail
  refine (lawCompare _ _ _ _ _).mono ?_
  rintro e w5 ⟨rfl, rfl⟩
  go_wp2_with fail
  refine (lastIndex w3.heap.size a3 n cap3 0 _ hn3 HN4.out).mono ?_
  rintro e w5 ⟨rfl, rfl⟩
  go_wp2_with fail
  refine (entryLast w3.heap.size a3 n cap3 0 T N M B _ hn3 HN4.out HL4.out (by omega)).mono ?_
  rintro e w6 ⟨a6, c6, rfl, hl6, hb6⟩
  have HN6 : Hid (NodeAt w3.heap.size (.slice a3 n cap3) 0 w6) := HN4.out.below hb6
  have HL6 : Hid (LogAt w6 (.slice a3 n cap3) n T N M B) := HL4.out.below hb6
  have hb06 := LogB.step hb04 hb6
  have hf0 := field0 (lastT n T) (N (n - 1)) a6 (M (n - 1)) c6
  clear hl6 hb04 hb6 HN4 HL4 HG4
  go_wp2_with fail
  clear hf0
  refine (zcompareLog w3.heap.size a3 n cap3 0 (lastT n T) n T N M B _ hn3 HN6.out HL6.out).mono ?_
  rintro e w7 ⟨rfl, rfl⟩
  rw [lex_self]
  have hmk := CloneL.make3 29 37 Try.underlying29 CloneL.info37 L (by omega)
  have HE : Hid (lex (lastT n T) n (lastT L fun _ => lt) L = - lex lt L (lastT n T) n) := by
    show _ = _
    rw [lastT_const (by omega)]
    exact lex_neg _ _ _ _
  have hbd := lex_bd lt L (lastT n T) n
  go_wp2_with fail
  go_loopw [14] (fun i wr => ∃ j : Nat, j ≤ L ∧ i = .int .i64 j ∧ Below w7.heap.size w7 wr ∧ Hid (CloneL.Own w7.heap.size 37 L j (fun _ => lt) (fun _ => false) (fun _ => 0) (fun _ _ => 0) wr)) (fun i _ => L - (intOf i).toNat)
  case atStart =>
    obtain ⟨f, hf⟩ := CloneL.row_zrow w7 L 37
    exact ⟨0, Nat.zero_le _, rfl, (Below.refl _ _).alloc (Nat.le_refl _) _, f, hf, fun i hi => by omega⟩
  case round =>
    obtain ⟨j, hj, rfl, hbw, hown⟩ := hrel
    clear hmk
    by_cases hlt : j < L
    · obtain ⟨f1, hr1, _⟩ := hown.out
      have d0 := hr1.cell (i := j * 3) (by omega)
      have d1 := hr1.cell (i := j * 3 + 1) (by omega)
      have d2 := hr1.cell (i := j * 3 + 2) (by omega)
      have z0 := hr1.frozen (j * 3)
      have z1 := hr1.frozen (j * 3 + 1)
      have z2 := hr1.frozen (j * 3 + 2)
      clear hr1
      go_wp2_with fail
      exact ⟨⟨j + 1, by omega, by go_num, ((hbw.setCell (Nat.le_refl _) _).setCell (Nat.le_refl _) _).setCell (Nat.le_refl _) _, hown.out.set _ ⟨none, 0, rfl, .inl rfl⟩⟩, by simp [intOf]; omega⟩
    · have hjL : j = L := by omega
      have HO : Hid (LogAt wr (.slice (some ⟨w7.heap.size, 0, none⟩) L L) L (fun _ => lt) (fun _ => false) (fun _ => 0) (fun _ _ => 0)) := by
        have := hown.out
        rw [hjL] at this
        exact this.log
      clear hown hjL
      go_wp2_with fail
      refine (newNode _ L L _ _).mono ?_
      rintro e w8 ⟨rfl, hn8, hb8⟩
      have HN8 : Hid (NodeAt wr.heap.size (.slice (some ⟨w7.heap.size, 0, none⟩) L L) 0 w8) := hn8
      have HL8 : Hid (LogAt w8 (.slice (some ⟨w7.heap.size, 0, none⟩) L L) L (fun _ => lt) (fun _ => false) (fun _ => 0) (fun _ _ => 0)) := HO.out.below hb8
      clear hn8 HO
      go_wp2_with fail
      refine (zcompareLog wr.heap.size _ L L 0 (lastT n T) n (fun _ => lt) (fun _ => false) (fun _ => 0) (fun _ _ => 0) _ (by omega) HN8.out HL8.out).mono ?_
      rintro e w9 ⟨rfl, rfl⟩
      rw [HE.out]
      clear HE
      go_wp2_with fail
      go_ret
      exact ⟨rfl, LogB.step (LogB.step hb06 hbw) hb8⟩

set_option maxHeartbeats 1000000 in
theorem walk_nil_zero (a : Option Addr) (n cap : Nat) (lt : Int) (T : Nat → Int) (N : Nat → Bool) (M : Nat → Nat) (B : Nat → Nat → Int) (w : World) (h : LogAt w (.slice a n cap) n T N M B) (hn : n ≤ maxLen) (hM : ∀ i, i < n → M i ≤ maxLen) (hz : n = 0) :
    Calls Try.prog 5 #[.slice a n cap, .int .u64 lt, .int .u64 0] w (Yes w) := by
  have HL : Hid (LogAt w (.slice a n cap) n T N M B) := h
  have HM : Hid (∀ i, i < n → M i ≤ maxLen) := hM
  clear h hM
  have hz1 : ¬ (0 : Int) < (n : Int) := by omega
  have HZ0 : Hid (n = 0) := hz
  clear hz
  go_enter Try.func5, Try.ntmps5
  go_wp2_with fail
  refine (Fits.zzBytes19 a n cap _ _ T N M B _ HL.out hn HM.out).mono ?_
  rintro e w1 ⟨r, rfl, rfl, hr⟩
  cases r with
  | false =>
    go_wp2_with fail
    go_ret
    exact ⟨rfl, Below.refl _ _⟩
  | true =>
  have HB : Hid (∀ i, i < n → M i ≤ 1048576) := hr rfl
  clear hr
  go_wp2_with fail
  refine (Fits.logFits a n cap T N M B _ HL.out hn HB.out).mono ?_
  rintro e w1 ⟨r, rfl, rfl, hr⟩
  cases r with
  | false =>
    go_wp2_with fail
    go_ret
    exact ⟨rfl, Below.refl _ _⟩
  | true =>
  have hn2 : n ≤ 32768 := hr rfl
  have hn3 : n ≤ 1048576 := by omega
  clear hr
  go_wp2_with fail
  refine (CloneL.cloneLog a n cap T N M B _ HL.out hn2 HB.out).mono ?_
  rintro e w2 ⟨a2, cap2, rfl, hl2, hb2⟩
  have HL2 : Hid (LogAt w2 (.slice a2 n cap2) n T N M B) := hl2
  clear hl2
  go_wp2_with fail
  refine (CloneL.entries a2 n cap2 T N M B _ HL2.out hn2 HB.out).mono ?_
  rintro e w3 ⟨a3, cap3, rfl, hl3, hb3⟩
  have HL3 : Hid (LogAt w3 (.slice a3 n cap3) n T N M B) := hl3
  clear hl3
  go_wp2_with fail
  refine (newNode a3 n cap3 _ _).mono ?_
  rintro e w4 ⟨rfl, hn4, hb4⟩
  have HN4 : Hid (NodeAt w3.heap.size (.slice a3 n cap3) 0 w4) := hn4
  have HL4 : Hid (LogAt w4 (.slice a3 n cap3) n T N M B) := HL3.out.below hb4
  have HG4 : Hid (LogAt w4 (.slice a2 n cap2) n T N M B) := (HL2.out.below hb3).below hb4
  have hb04 : Below w1.heap.size w1 w4 := LogB.step (LogB.step hb2 hb3) hb4
  clear hn4 HL3 HL2 hb2 hb3 hb4 HM HL
  go_wp2_with fail
  refine (zcompareLog w3.heap.size a3 n cap3 0 lt 0 T N M B _ hn3 HN4.out HL4.out).mono ?_
  rintro e w5 ⟨rfl, rfl⟩
  go_wp2_with fail
  refine (lawLastTerm a2 n cap2 T N M B _ hn3 HG4.out).mono ?_
  rintro e w5 ⟨rfl, rfl⟩
  go_wp2_with fail
  refine (lawCompare _ _ _ _ _).mono ?_
  rintro e w5 ⟨rfl, rfl⟩
  go_wp2_with fail
  refine (lastIndex w3.heap.size a3 n cap3 0 _ hn3 HN4.out).mono ?_
  rintro e w5 ⟨rfl, rfl⟩
  go_wp2_with fail
  have HZ : Hid (lastT n T = 0) := lastT_zero HZ0.out
  have hb06 := hb04
  clear hb04
  refine (zcompareLog w3.heap.size a3 n cap3 0 0 n T N M B _ hn3 HN4.out HL4.out).mono ?_
  rintro e w7 ⟨rfl, rfl⟩
  have hlex : lex 0 n (lastT n T) n = 0 := by rw [HZ.out]; exact lex_self _ _
  rw [hlex]
  clear hlex
  go_wp2_with fail
  go_ret
  exact ⟨rfl, hb06⟩

set_option maxHeartbeats 1000000 in
theorem walk_nil_far (a : Option Addr) (n cap : Nat) (lt li : Int) (T : Nat → Int) (N : Nat → Bool) (M : Nat → Nat) (B : Nat → Nat → Int) (w : World) (h : LogAt w (.slice a n cap) n T N M B) (hn : n ≤ maxLen) (hM : ∀ i, i < n → M i ≤ maxLen) (hz : n = 0) (hli : 4096 < li) :
    Calls Try.prog 5 #[.slice a n cap, .int .u64 lt, .int .u64 li] w (Yes w) := by
  have HL : Hid (LogAt w (.slice a n cap) n T N M B) := h
  have HM : Hid (∀ i, i < n → M i ≤ maxLen) := hM
  clear h hM
  have hz1 : ¬ (0 : Int) < (n : Int) := by omega
  have HZ0 : Hid (n = 0) := hz
  clear hz
  have hli0 : 0 < li := by omega
  go_enter Try.func5, Try.ntmps5
  go_wp2_with fail
  refine (Fits.zzBytes19 a n cap _ _ T N M B _ HL.out hn HM.out).mono ?_
  rintro e w1 ⟨r, rfl, rfl, hr⟩
  cases r with
  | false =>
    go_wp2_with fail
    go_ret
    exact ⟨rfl, Below.refl _ _⟩
  | true =>
  have HB : Hid (∀ i, i < n → M i ≤ 1048576) := hr rfl
  clear hr
  go_wp2_with fail
  refine (Fits.logFits a n cap T N M B _ HL.out hn HB.out).mono ?_
  rintro e w1 ⟨r, rfl, rfl, hr⟩
  cases r with
  | false =>
    go_wp2_with fail
    go_ret
    exact ⟨rfl, Below.refl _ _⟩
  | true =>
  have hn2 : n ≤ 32768 := hr rfl
  have hn3 : n ≤ 1048576 := by omega
  clear hr
  go_wp2_with fail
  refine (CloneL.cloneLog a n cap T N M B _ HL.out hn2 HB.out).mono ?_
  rintro e w2 ⟨a2, cap2, rfl, hl2, hb2⟩
  have HL2 : Hid (LogAt w2 (.slice a2 n cap2) n T N M B) := hl2
  clear hl2
  go_wp2_with fail
  refine (CloneL.entries a2 n cap2 T N M B _ HL2.out hn2 HB.out).mono ?_
  rintro e w3 ⟨a3, cap3, rfl, hl3, hb3⟩
  have HL3 : Hid (LogAt w3 (.slice a3 n cap3) n T N M B) := hl3
  clear hl3
  go_wp2_with fail
  refine (newNode a3 n cap3 _ _).mono ?_
  rintro e w4 ⟨rfl, hn4, hb4⟩
  have HN4 : Hid (NodeAt w3.heap.size (.slice a3 n cap3) 0 w4) := hn4
  have HL4 : Hid (LogAt w4 (.slice a3 n cap3) n T N M B) := HL3.out.below hb4
  have HG4 : Hid (LogAt w4 (.slice a2 n cap2) n T N M B) := (HL2.out.below hb3).below hb4
  have hb04 : Below w1.heap.size w1 w4 := LogB.step (LogB.step hb2 hb3) hb4
  clear hn4 HL3 HL2 hb2 hb3 hb4 HM HL
  go_wp2_with fail
  refine (zcompareLog w3.heap.size a3 n cap3 0 lt li T N M B _ hn3 HN4.out HL4.out).mono ?_
  rintro e w5 ⟨rfl, rfl⟩
  go_wp2_with fail
  refine (lawLastTerm a2 n cap2 T N M B _ hn3 HG4.out).mono ?_
  rintro e w5 ⟨rfl, rfl⟩
  go_wp2_with fail
  refine (lawCompare _ _ _ _ _).mono ?_
  rintro e w5 ⟨rfl, rfl⟩
  go_wp2_with fail
  refine (lastIndex w3.heap.size a3 n cap3 0 _ hn3 HN4.out).mono ?_
  rintro e w5 ⟨rfl, rfl⟩
  go_wp2_with fail
  have HZ : Hid (lastT n T = 0) := lastT_zero HZ0.out
  have hb06 := hb04
  clear hb04
  refine (zcompareLog w3.heap.size a3 n cap3 0 0 n T N M B _ hn3 HN4.out HL4.out).mono ?_
  rintro e w7 ⟨rfl, rfl⟩
  have hlex : lex 0 n (lastT n T) n = 0 := by rw [HZ.out]; exact lex_self _ _
  rw [hlex]
  clear hlex
  go_wp2_with fail
  go_ret
  exact ⟨rfl, hb06⟩

set_option maxHeartbeats 1000000 in
theorem walk_nil_in (a : Option Addr) (n cap : Nat) (L : Nat) (lt : Int) (T : Nat → Int) (N : Nat → Bool) (M : Nat → Nat) (B : Nat → Nat → Int) (w : World) (h : LogAt w (.slice a n cap) n T N M B) (hn : n ≤ maxLen) (hM : ∀ i, i < n → M i ≤ maxLen) (hz : n = 0) (hL0 : 0 < L) (hL1 : L ≤ 4096) :
    Calls Try.prog 5 #[.slice a n cap, .int .u64 lt, .int .u64 L] w (Yes w) := by
  have HL : Hid (LogAt w (.slice a n cap) n T N M B) := h
  have HM : Hid (∀ i, i < n → M i ≤ maxLen) := hM
  clear h hM
  have hz1 : ¬ (0 : Int) < (n : Int) := by omega
  have HZ0 : Hid (n = 0) := hz
  clear hz
  go_enter Try.func5, Try.ntmps5
  go_wp2_with fail
  refine (Fits.zzBytes19 a n cap _ _ T N M B _ HL.out hn HM.out).mono ?_
  rintro e w1 ⟨r, rfl, rfl, hr⟩
  cases r with
  | false =>
    go_wp2_with fail
    go_ret
    exact ⟨rfl, Below.refl _ _⟩
  | true =>
  have HB : Hid (∀ i, i < n → M i ≤ 1048576) := hr rfl
  clear hr
  go_wp2_with fail
  refine (Fits.logFits a n cap T N M B _ HL.out hn HB.out).mono ?_
  rintro e w1 ⟨r, rfl, rfl, hr⟩
  cases r with
  | false =>
    go_wp2_with fail
    go_ret
    exact ⟨rfl, Below.refl _ _⟩
  | true =>
  have hn2 : n ≤ 32768 := hr rfl
  have hn3 : n ≤ 1048576 := by omega
  clear hr
  go_wp2_with fail
  refine (CloneL.cloneLog a n cap T N M B _ HL.out hn2 HB.out).mono ?_
  rintro e w2 ⟨a2, cap2, rfl, hl2, hb2⟩
  have HL2 : Hid (LogAt w2 (.slice a2 n cap2) n T N M B) := hl2
  clear hl2
  go_wp2_with fail
  refine (CloneL.entries a2 n cap2 T N M B _ HL2.out hn2 HB.out).mono ?_
  rintro e w3 ⟨a3, cap3, rfl, hl3, hb3⟩
  have HL3 : Hid (LogAt w3 (.slice a3 n cap3) n T N M B) := hl3
  clear hl3
  go_wp2_with fail
  refine (newNode a3 n cap3 _ _).mono ?_
  rintro e w4 ⟨rfl, hn4, hb4⟩
  have HN4 : Hid (NodeAt w3.heap.size (.slice a3 n cap3) 0 w4) := hn4
  have HL4 : Hid (LogAt w4 (.slice a3 n cap3) n T N M B) := HL3.out.below hb4
  have HG4 : Hid (LogAt w4 (.slice a2 n cap2) n T N M B) := (HL2.out.below hb3).below hb4
  have hb04 : Below w1.heap.size w1 w4 := LogB.step (LogB.step hb2 hb3) hb4
  clear hn4 HL3 HL2 hb2 hb3 hb4 HM HL
  go_wp2_with fail
  refine (zcompareLog w3.heap.size a3 n cap3 0 lt L T N M B _ hn3 HN4.out HL4.out).mono ?_
  rintro e w5 ⟨rfl, rfl⟩
  go_wp2_with fail
  refine (lawLastTerm a2 n cap2 T N M B _ hn3 HG4.out).mono ?_
  rintro e w5 ⟨rfl, rfl⟩
  go_wp2_with fail
  refine (lawCompare _ _ _ _ _).mono ?_
  rintro e w5 ⟨rfl, rfl⟩
  go_wp2_with fail
  refine (lastIndex w3.heap.size a3 n cap3 0 _ hn3 HN4.out).mono ?_
  rintro e w5 ⟨rfl, rfl⟩
  go_wp2_with fail
  have HZ : Hid (lastT n T = 0) := lastT_zero HZ0.out
  have hb06 := hb04
  clear hb04
  refine (zcompareLog w3.heap.size a3 n cap3 0 0 n T N M B _ hn3 HN4.out HL4.out).mono ?_
  rintro e w7 ⟨rfl, rfl⟩
  have hlex : lex 0 n (lastT n T) n = 0 := by rw [HZ.out]; exact lex_self _ _
  rw [hlex]
  clear hlex
  have hmk := CloneL.make3 29 37 Try.underlying29 CloneL.info37 L (by omega)
  have HE : Hid (lex (lastT n T) n (lastT L fun _ => lt) L = - lex lt L (lastT n T) n) := by
    show _ = _
    rw [lastT_const (by omega)]
    exact lex_neg _ _ _ _
  have hbd := lex_bd lt L (lastT n T) n
  go_wp2_with fail
  go_loopw [14] (fun i wr => ∃ j : Nat, j ≤ L ∧ i = .int .i64 j ∧ Below w7.heap.size w7 wr ∧ Hid (CloneL.Own w7.heap.size 37 L j (fun _ => lt) (fun _ => false) (fun _ => 0) (fun _ _ => 0) wr)) (fun i _ => L - (intOf i).toNat)
  case atStart =>
    obtain ⟨f, hf⟩ := CloneL.row_zrow w7 L 37
    exact ⟨0, Nat.zero_le _, rfl, (Below.refl _ _).alloc (Nat.le_refl _) _, f, hf, fun i hi => by omega⟩
  case round =>
    obtain ⟨j, hj, rfl, hbw, hown⟩ := hrel
    clear hmk
    by_cases hlt : j < L
    · obtain ⟨f1, hr1, _⟩ := hown.out
      have d0 := hr1.cell (i := j * 3) (by omega)
      have d1 := hr1.cell (i := j * 3 + 1) (by omega)
      have d2 := hr1.cell (i := j * 3 + 2) (by omega)
      have z0 := hr1.frozen (j * 3)
      have z1 := hr1.frozen (j * 3 + 1)
      have z2 := hr1.frozen (j * 3 + 2)
      clear hr1
      go_wp2_with fail
      exact ⟨⟨j + 1, by omega, by go_num, ((hbw.setCell (Nat.le_refl _) _).setCell (Nat.le_refl _) _).setCell (Nat.le_refl _) _, hown.out.set _ ⟨none, 0, rfl, .inl rfl⟩⟩, by simp [intOf]; omega⟩
    · have hjL : j = L := by omega
      have HO : Hid (LogAt wr (.slice (some ⟨w7.heap.size, 0, none⟩) L L) L (fun _ => lt) (fun _ => false) (fun _ => 0) (fun _ _ => 0)) := by
        have := hown.out
        rw [hjL] at this
        exact this.log
      clear hown hjL
      go_wp2_with fail
      refine (newNode _ L L _ _).mono ?_
      rintro e w8 ⟨rfl, hn8, hb8⟩
      have HN8 : Hid (NodeAt wr.heap.size (.slice (some ⟨w7.heap.size, 0, none⟩) L L) 0 w8) := hn8
      have HL8 : Hid (LogAt w8 (.slice (some ⟨w7.heap.size, 0, none⟩) L L) L (fun _ => lt) (fun _ => false) (fun _ => 0) (fun _ _ => 0)) := HO.out.below hb8
      clear hn8 HO
      go_wp2_with fail
      refine (zcompareLog wr.heap.size _ L L 0 (lastT n T) n (fun _ => lt) (fun _ => false) (fun _ => 0) (fun _ _ => 0) _ (by omega) HN8.out HL8.out).mono ?_
      rintro e w9 ⟨rfl, rfl⟩
      rw [HE.out]
      clear HE
      go_wp2_with fail
      go_ret
      exact ⟨rfl, LogB.step (LogB.step hb06 hbw) hb8⟩

end Go.Proofs.Qxb6617010a.Ranks
