import Derived.Test.Qxb6617010aFits
import Derived.Test.Qxb6617010aCommit
import Derived.Test.Qxb6617010aSame
namespace Go.Proofs.Qxb6617010a.HandsOut
open Go.RowKit Go.Deep Go.Proofs.Qxb6617010a.LogB Go.Proofs.Qxb6617010a.NodeL Go.Proofs.Qxb6617010a.Same
attribute [local go_sem ↓] Go.wp_at_zero Go.wp_at_succ

/-- Block g is a row of cap entries; of those from j on to k it is known what they hold. -/
def GotRow (g cap k j : Nat) (T : Nat → Int) (N : Nat → Bool) (w : World) : Prop :=
  ∃ f, w.rowIs g 37 (cap * 3) f ∧ ∀ i, j ≤ i → i < k → f (i * 3) = .int .u64 (T i) ∧ f (i * 3 + 1) = .bool (N i) ∧ ∃ a m c, f (i * 3 + 2) = .slice a m c

theorem got_of_owns {w : World} {lo k : Nat} {a : Option Addr} {c : Nat} {xs : List Value} {T : Nat → Int} {N : Nat → Bool} {M : Nat → Nat} {B : Nat → Nat → Int} (h : w.ownsRow lo 37 3 (.slice a k c) k xs) (hl : LogAt w (.slice a k c) k T N M B) (hk : 0 < k) :
    ∃ g, a = some ⟨g, 0, none⟩ ∧ lo ≤ g ∧ k ≤ c ∧ c ≤ maxLen ∧ GotRow g c k 0 T N w := by
  rcases h.2 with ⟨_, h0⟩ | ⟨g, cap, cur, hv, hg, hh, hc, hm, hs, _⟩
  · omega
  cases hv
  refine ⟨g, rfl, hg, hc, hm, fun j => cur.getD j default, ⟨cur, hh, hs, fun i hi => by simp [Array.getD, hs, hi]⟩, fun i _ hi => ?_⟩
  obtain ⟨a', cap', hv, _, hl⟩ := hl
  cases hv
  rcases hl with hl | ⟨b, off, ha, hl⟩
  · omega
  cases ha
  obtain ⟨c', h0, h1, h2, ca, cc, rfl, _⟩ := hl i hi
  simp only [World.cell?, hh, Nat.zero_add] at h0 h1 h2
  refine ⟨?_, ?_, ca, M i, cc, ?_⟩
  · show cur.getD _ default = _; rw [Array.getD_eq_getD_getElem?]; simp at h0; simp [h0]
  · show cur.getD _ default = _; rw [Array.getD_eq_getD_getElem?]; simp at h1; simp [h1]
  · show cur.getD _ default = _; rw [Array.getD_eq_getD_getElem?]; simp at h2; simp [h2]

theorem owns_of_got {w : World} {lo g c k j : Nat} {T : Nat → Int} {N : Nat → Bool} (h : GotRow g c k j T N w) (hg : lo ≤ g) (hk : k ≤ c) (hc : c ≤ maxLen) : ∃ xs, w.ownsRow lo 37 3 (.slice (some ⟨g, 0, none⟩) k c) k xs := by
  obtain ⟨f, ⟨cur, hh, hs, _⟩, _⟩ := h
  exact ⟨cur.toList.take (k * 3), by simp [hs]; omega, .inr ⟨g, c, cur, rfl, hg, hh, hk, hc, hs, rfl⟩⟩

theorem GotRow.alloc {g c k j : Nat} {T : Nat → Int} {N : Nat → Bool} {w : World} (h : GotRow g c k j T N w) (o : Obj) : GotRow g c k j T N (w.alloc o) := by
  obtain ⟨f, hr, h⟩ := h
  exact ⟨f, hr.alloc o, h⟩

theorem GotRow.set {g c k j : Nat} {T : Nat → Int} {N : Nat → Bool} {w : World} (h : GotRow g c k j T N w) (u v x : Value) :
    GotRow g c k (j + 1) T N (((w.setCell ⟨g, j * 3, none⟩ u).setCell ⟨g, j * 3 + 1, none⟩ v).setCell ⟨g, j * 3 + 2, none⟩ x) := by
  obtain ⟨f, hr, h⟩ := h
  refine ⟨_, ((hr.set _ _).set _ _).set _ _, fun i hi hik => ?_⟩
  obtain ⟨h0, h1, a, m, c', h2⟩ := h i (by omega) hik
  refine ⟨?_, ?_, a, m, c', ?_⟩
  · simp only [show i * 3 ≠ j * 3 + 2 by omega, show i * 3 ≠ j * 3 + 1 by omega, show i * 3 ≠ j * 3 by omega, if_false]
    exact h0
  · simp only [show i * 3 + 1 ≠ j * 3 + 2 by omega, show i * 3 + 1 ≠ j * 3 + 1 by omega, show i * 3 + 1 ≠ j * 3 by omega, if_false]
    exact h1
  · simp only [show i * 3 + 2 ≠ j * 3 + 2 by omega, show i * 3 + 2 ≠ j * 3 + 1 by omega, show i * 3 + 2 ≠ j * 3 by omega, if_false]
    exact h2

/-- What is known of 'got' at the head of round j. -/
def Got (lo : Nat) (a : Option Addr) (c k j : Nat) (T : Nat → Int) (N : Nat → Bool) (w : World) : Prop :=
  (k = 0 ∧ ∃ xs, w.ownsRow lo 37 3 (.slice a k c) k xs) ∨ ∃ g, a = some ⟨g, 0, none⟩ ∧ lo ≤ g ∧ k ≤ c ∧ c ≤ maxLen ∧ GotRow g c k j T N w

theorem got_start {w : World} {lo k : Nat} {a : Option Addr} {c : Nat} {xs : List Value} {T : Nat → Int} {N : Nat → Bool} {M : Nat → Nat} {B : Nat → Nat → Int} (h : w.ownsRow lo 37 3 (.slice a k c) k xs) (hl : LogAt w (.slice a k c) k T N M B) : Got lo a c k 0 T N w := by
  by_cases hk : k = 0
  · exact .inl ⟨hk, xs, h⟩
  · exact .inr (got_of_owns h hl (by omega))

theorem owns_alloc {w : World} {lo k : Nat} {v : Value} {xs : List Value} (h : w.ownsRow lo 37 3 v k xs) (o : Obj) : (w.alloc o).ownsRow lo 37 3 v k xs := by
  refine ⟨h.1, ?_⟩
  rcases h.2 with h0 | ⟨g, cap, cur, hv, hg, hh, r⟩
  · exact .inl h0
  · refine .inr ⟨g, cap, cur, hv, hg, ?_, r⟩
    rw [blk_alloc_lt _ _ _ (by obtain ⟨hlt, _⟩ := Array.getElem?_eq_some_iff.1 hh; exact hlt)]
    exact hh

theorem Got.owns {w : World} {lo k j : Nat} {a : Option Addr} {c : Nat} {T : Nat → Int} {N : Nat → Bool} (h : Got lo a c k j T N w) : ∃ xs, w.ownsRow lo 37 3 (.slice a k c) k xs := by
  rcases h with ⟨_, h⟩ | ⟨g, rfl, hg, hk, hc, h⟩
  · exact h
  · exact owns_of_got h hg hk hc

theorem own_ge {w : World} {lo k : Nat} {v : Value} {xs : List Value} (h : w.ownsRow lo 37 3 v k xs) : ∀ r, v.ownBlock = some r → lo ≤ r := by
  intro r hr
  rcases h.2 with ⟨rfl, _⟩ | ⟨g, cap, cur, rfl, hg, _⟩
  · simp [Value.ownBlock] at hr
  · simp [Value.ownBlock] at hr
    omega

theorem log_entry {w : World} {a : Option Addr} {n cap : Nat} {T : Nat → Int} {N : Nat → Bool} {M : Nat → Nat} {B : Nat → Nat → Int} (h : LogAt w (.slice a n cap) n T N M B) {i : Nat} (hi : i < n) :
    ∃ b off ca cc, a = some ⟨b, off, none⟩ ∧ w.cell? ⟨b, off + i * 3, none⟩ = some (.int .u64 (T i)) ∧ w.cell? ⟨b, off + i * 3 + 1, none⟩ = some (.bool (N i)) ∧ w.cell? ⟨b, off + i * 3 + 2, none⟩ = some (.slice ca (M i) cc) ∧ BytesAt 0 w (.slice ca (M i) cc) (M i) (B i) := by
  obtain ⟨a', cap', hv, _, h⟩ := h
  cases hv
  rcases h with h | ⟨b, off, ha, h⟩
  · omega
  obtain ⟨c, h0, h1, h2, ca, cc, rfl, h3⟩ := h i hi
  exact ⟨b, off, ca, cc, ha, h0, h1, h2, ca, cc, rfl, h3⟩

theorem wrap_succ (k : Nat) (h : k ≤ 1048576) : IntKind.u64.wrap ((k : Int) + 1) = (k : Int) + 1 := by
  rw [IntKind.wrap_u64]
  omega

theorem one_last : ∀ u ∈ [Value.int .u64 18446744073709551615, .bool true, .slice none 0 0], u.oneCell' = true := by
  intro u hu
  simp only [List.mem_cons, List.not_mem_nil, or_false] at hu
  rcases hu with rfl | rfl | rfl <;> rfl

set_option maxHeartbeats 1000000 in
theorem walk_in (a : Option Addr) (n cap k : Nat) (T : Nat → Int) (N : Nat → Bool) (M : Nat → Nat) (B : Nat → Nat → Int) (w : World) (h : LogAt w (.slice a n cap) n T N M B) (hn : n ≤ maxLen) (hM : ∀ i, i < n → M i ≤ maxLen) (hk : k < n) :
    Calls Try.prog 4 #[.slice a n cap, .int .u64 (k : Int)] w (Yes w) := by
  have HL : Hid (LogAt w (.slice a n cap) n T N M B) := h
  have HM : Hid (∀ i, i < n → M i ≤ maxLen) := hM
  clear h hM
  go_enter Try.func4, Try.ntmps4
  go_wp2_with fail
  refine (Fits.zzBytes18 a n cap _ T N M B _ HL.out hn HM.out).mono ?_
  rintro e w1 ⟨r, rfl, rfl, hr⟩
  cases r with
  | false =>
    go_wp2_with fail
    go_ret
    exact ⟨rfl, Below.refl _ _⟩
  | true =>
  have HB : Hid (∀ i, i < n → M i ≤ 1048576) := hr rfl
  clear hr
  go_wp2_with fail
  refine (Fits.logFits a n cap T N M B _ HL.out hn HB.out).mono ?_
  rintro e w1 ⟨r, rfl, rfl, hr⟩
  cases r with
  | false =>
    go_wp2_with fail
    go_ret
    exact ⟨rfl, Below.refl _ _⟩
  | true =>
  have hn2 : n ≤ 32768 := hr rfl
  clear hr
  go_wp2_with fail
  refine (CloneL.cloneLog a n cap T N M B _ HL.out hn2 HB.out).mono ?_
  rintro e w2 ⟨a2, cap2, rfl, hl2, hb2⟩
  have HL2 : Hid (LogAt w2 (.slice a2 n cap2) n T N M B) := hl2
  clear hl2
  go_wp2_with fail
  refine (CloneL.entries a2 n cap2 T N M B _ HL2.out hn2 HB.out).mono ?_
  rintro e w3 ⟨a3, cap3, rfl, hl3, hb3⟩
  have HL3 : Hid (LogAt w3 (.slice a3 n cap3) n T N M B) := hl3
  clear hl3
  go_wp2_with fail
  refine (newNode a3 n cap3 _ _).mono ?_
  rintro e w4 ⟨rfl, hn4, hb4⟩
  have HN4 : Hid (NodeAt w3.heap.size (.slice a3 n cap3) (k : Int) w4) := hn4
  have HL4 : Hid (LogAt w4 (.slice a3 n cap3) n T N M B) := HL3.out.below hb4
  clear hn4
  go_wp2_with fail
  refine (Commit.committed w3.heap.size a3 n cap3 (k : Int) T N M B k _ hn2 HN4.out HL4.out (by omega) (by rw [if_pos (by omega)])).mono ?_
  rintro e w5 ⟨a5, c5, xs5, rfl, hown5, hl5, hb5⟩
  have HG : Hid (Got w4.heap.size a5 c5 k 0 T N w5) := got_start hown5 hl5
  clear hown5 hl5
  have hkk : ((k : Int) != (k : Int)) = false := by simp
  go_wp2_with fail
  go_loopw [8, 9] (fun i _ wr => ∃ j : Nat, j ≤ k ∧ i = .int .i64 j ∧ Below w4.heap.size w4 wr ∧ Hid (Got w4.heap.size a5 c5 k j T N wr)) (fun i _ _ => k - (intOf i).toNat)
  case atStart => exact ⟨0, Nat.zero_le _, rfl, hb5, HG⟩
  case round =>
    obtain ⟨j, hj, rfl, hbw, hg⟩ := hrel
    by_cases hlt : j < k
    · clear HG
      rcases hg.out with ⟨hk0, _⟩ | ⟨g, rfl, hlo, hkc, hcm, hrow⟩
      · omega
      have HR : Hid (GotRow g c5 k j T N wr) := hrow
      obtain ⟨f, hr, hf⟩ := hrow
      obtain ⟨f0, f1, fa, fm, fc, f2⟩ := hf j (Nat.le_refl _) hlt
      have d0 : wr.cell? ⟨g, j * 3, none⟩ = some (.int .u64 (T j)) := by rw [hr.cell (by omega), f0]
      have d1 : wr.cell? ⟨g, j * 3 + 1, none⟩ = some (.bool (N j)) := by rw [hr.cell (by omega), f1]
      have d2 : wr.cell? ⟨g, j * 3 + 2, none⟩ = some (.slice fa fm fc) := by rw [hr.cell (by omega), f2]
      have z0 := hr.frozen (j * 3)
      have z1 := hr.frozen (j * 3 + 1)
      have z2 := hr.frozen (j * 3 + 2)
      have hgl := hr.lt
      clear hr hf f0 f1 f2 hg
      have HCM : Hid (c5 ≤ maxLen) := hcm
      clear hcm
      go_wp2_with fail
      exact ⟨⟨j + 1, by omega, by go_num, LogB.stepA (((hbw.setCell hlo _).setCell hlo _).setCell hlo _) _, .inr ⟨g, rfl, hlo, hkc, HCM.out, (HR.out.set _ _ _).alloc _⟩⟩, by simp [intOf]; omega⟩
    · obtain ⟨xs, hxs⟩ := hg.out.owns
      have HX : Hid ((wr.alloc (.cells #[.int .u64 18446744073709551615, .bool true, .slice none 0 0] 37)).ownsRow w4.heap.size 37 3 (.slice a5 k c5) k xs) := owns_alloc hxs _
      have HW : Hid (∀ i u, [Value.int .u64 18446744073709551615, .bool true, .slice none 0 0][i]? = some u → (wr.alloc (.cells #[.int .u64 18446744073709551615, .bool true, .slice none 0 0] 37)).cell? ((⟨wr.heap.size, 0, none⟩ : Addr).add i) = some u) := World.news_of_block (blk_alloc_new wr _)
      have hbw2 : Below w4.heap.size w4 (wr.alloc (.cells #[.int .u64 18446744073709551615, .bool true, .slice none 0 0] 37)) := LogB.stepA hbw _
      clear HG hg hxs
      go_wp2_with (at_builtin; refine Go.wpList_append_lies _ rfl _ _ _ rfl w4.heap.size 37 Try.t37 (.agg #[.int .u64 0, .bool false, .slice none 0 0]) 3 40 Try.underlying29 Commit.i37 Commit.i37z Commit.i37s Commit.i37b rfl (by omega) (.slice a5 k c5) k xs rfl HX.out ⟨wr.heap.size, 0, none⟩ 1 1 [.int .u64 18446744073709551615, .bool true, .slice none 0 0] rfl rfl HW.out one_last (by omega) (by unfold maxLen; omega) (by omega) hbw2.size _ rfl ?_; intro g6 c6 w6 hown6 hgrow6 hat6 hlt6)
      have hb6 : Below w4.heap.size w4 w6 := hbw2.grown hgrow6 hbw2.size (own_ge HX.out)
      have HN6 : Hid (NodeAt w3.heap.size (.slice a3 n cap3) (k : Int) w6) := HN4.out.below hb6
      have HL6 : Hid (LogAt w6 (.slice a3 n cap3) n T N M B) := HL4.out.below hb6
      have HG6 : Hid (LogAt w6 (.slice a2 n cap2) n T N M B) := ((HL2.out.below hb3).below hb4).below hb6
      have hb06 : Below w1.heap.size w1 w6 := LogB.step (LogB.step (LogB.step hb2 hb3) hb4) hb6
      clear hown6 hgrow6 hat6 hlt6 HX HW hbw2 hbw HN4 HL4 HL3 HL2 hb2 hb3 hb4 hb5 hb6 HM HL hlt hj
      refine (Commit.committed w3.heap.size a3 n cap3 (k : Int) T N M B k _ hn2 HN6.out HL6.out (by omega) (by rw [if_pos (by omega)])).mono ?_
      rintro e w7 ⟨a7, c7, xs7, rfl, _, hl7, hb7⟩
      have HA7 : Hid (LogAt w7 (.slice a7 k c7) k T N M B) := hl7
      have HG7 : Hid (LogAt w7 (.slice a2 n cap2) n T N M B) := HG6.out.below hb7
      have HN7 : Hid (NodeAt w3.heap.size (.slice a3 n cap3) (k : Int) w7) := HN6.out.below hb7
      have HL7 : Hid (LogAt w7 (.slice a3 n cap3) n T N M B) := HL6.out.below hb7
      clear hl7 HN6 HL6 HG6
      go_wp2_with fail
      go_loopw [11] (fun i wr => ∃ j : Nat, j ≤ k ∧ i = .int .u64 j ∧ Below w7.heap.size w7 wr) (fun i _ => k - (intOf i).toNat)
      case atStart => exact ⟨0, Nat.zero_le _, rfl, Below.refl _ _⟩
      case round =>
        obtain ⟨j, hj, rfl, hbw⟩ := hrel
        by_cases hlt : j < k
        · obtain ⟨b1, o1, ca1, cc1, rfl, p0, p1, p2, p3⟩ := log_entry HA7.out hlt
          obtain ⟨b2, o2, ca2, cc2, rfl, q0, q1, q2, q3⟩ := log_entry HG7.out (show j < n by omega)
          have p0 := keep hbw p0
          have p1 := keep hbw p1
          have p2 := keep hbw p2
          have q0 := keep hbw q0
          have q1 := keep hbw q1
          have q2 := keep hbw q2
          have P3 : Hid (BytesAt 0 wr.drew (.slice ca1 (M j) cc1) (M j) (B j)) := (p3.below hbw).below (Below.refl _ _).drew
          have Q3 : Hid (BytesAt 0 wr.drew (.slice ca2 (M j) cc2) (M j) (B j)) := (q3.below hbw).below (Below.refl _ _).drew
          have hMj := HB.out j (by omega)
          have i0 : (0 : Int) ≤ (j : Int) := by omega
          have i1 : (j : Int) < (k : Int) := by omega
          have i2 : (j : Int) < (n : Int) := by omega
          clear p3 q3
          go_wp2_with fail
          go_region_held3 (fun w' => w'.cell? ⟨b1, o1 + j * 3, none⟩ = some (.int .u64 (T j)) ∧ w'.cell? ⟨b1, o1 + j * 3 + 1, none⟩ = some (.bool (N j)) ∧ w'.cell? ⟨b1, o1 + j * 3 + 2, none⟩ = some (.slice ca1 (M j) cc1)
              ∧ w'.cell? ⟨b2, o2 + j * 3, none⟩ = some (.int .u64 (T j)) ∧ w'.cell? ⟨b2, o2 + j * 3 + 1, none⟩ = some (.bool (N j)) ∧ w'.cell? ⟨b2, o2 + j * 3 + 2, none⟩ = some (.slice ca2 (M j) cc2))
            (first | exact ⟨p0, p1, p2, q0, q1, q2⟩ | exact ⟨keep hb8 p0, keep hb8 p1, keep hb8 p2, keep hb8 q0, keep hb8 q1, keep hb8 q2⟩)
            ((go_at_call 16; refine (sameEntry _ _ _ _ _ _ (M j) (B j) _ hMj P3.out Q3.out).mono ?_; rintro e w8 ⟨rfl, hb8⟩))
          go_wp2_with fail
          exact ⟨⟨j + 1, by omega, by go_num, LogB.step hbw.drew hb8⟩, by simp [intOf]; omega⟩
        · obtain ⟨b2, o2, ca2, cc2, rfl, q0, q1, q2, q3⟩ := log_entry HG7.out (show k < n by omega)
          have q0 := keep hbw q0
          have q1 := keep hbw q1
          have q2 := keep hbw q2
          have Q3 : Hid (BytesAt 0 wr.drew (.slice ca2 (M k) cc2) (M k) (B k)) := (q3.below hbw).below (Below.refl _ _).drew
          have HN8 : Hid (NodeAt w3.heap.size (.slice a3 n cap3) (k : Int) wr.drew) := (HN7.out.below hbw).below (Below.refl _ _).drew
          have HL8 : Hid (LogAt wr.drew (.slice a3 n cap3) n T N M B) := (HL7.out.below hbw).below (Below.refl _ _).drew
          have hMk := HB.out k (by omega)
          have i0 : (0 : Int) ≤ (k : Int) := by omega
          have i2 : (k : Int) < (n : Int) := by omega
          have hwr := wrap_succ k (by omega)
          have hb07 : Below w1.heap.size w1 wr := LogB.step (LogB.step hb06 hb7) hbw
          clear q3 HN7 HL7 hbw hb7 hb06
          go_wp2_with fail
          go_region_held3 (fun w' => w'.cell? ⟨b2, o2 + k * 3, none⟩ = some (.int .u64 (T k)) ∧ w'.cell? ⟨b2, o2 + k * 3 + 1, none⟩ = some (.bool (N k)) ∧ w'.cell? ⟨b2, o2 + k * 3 + 2, none⟩ = some (.slice ca2 (M k) cc2))
            (first | exact ⟨q0, q1, q2⟩ | exact ⟨keep hb8 q0, keep hb8 q1, keep hb8 q2⟩ | exact ⟨keep hb9 (keep hb8 q0), keep hb9 (keep hb8 q1), keep hb9 (keep hb8 q2)⟩)
            (first
              | ((go_at_call 17; refine (entryAt w3.heap.size a3 n cap3 (k : Int) T N M B k _ (by omega) HN8.out HL8.out hk).mono ?_; rintro e w8 ⟨a8, c8, rfl, hl8, hb8⟩))
              | ((go_at_call 16; refine (sameEntry _ _ _ _ _ _ (M k) (B k) _ hMk hl8 (Q3.out.below hb8)).mono ?_; rintro e w9 ⟨rfl, hb9⟩)))
          go_wp2_with fail
          go_ret
          exact ⟨rfl, LogB.step (LogB.step hb07.drew hb8) hb9⟩

set_option maxHeartbeats 1000000 in
theorem walk_out (a : Option Addr) (n cap : Nat) (ci : Int) (T : Nat → Int) (N : Nat → Bool) (M : Nat → Nat) (B : Nat → Nat → Int) (w : World) (h : LogAt w (.slice a n cap) n T N M B) (hn : n ≤ maxLen) (hM : ∀ i, i < n → M i ≤ maxLen) (hk : (n : Int) ≤ ci) (h0 : 0 ≤ ci) :
    Calls Try.prog 4 #[.slice a n cap, .int .u64 ci] w (Yes w) := by
  have HL : Hid (LogAt w (.slice a n cap) n T N M B) := h
  have HM : Hid (∀ i, i < n → M i ≤ maxLen) := hM
  clear h hM
  go_enter Try.func4, Try.ntmps4
  go_wp2_with fail
  refine (Fits.zzBytes18 a n cap _ T N M B _ HL.out hn HM.out).mono ?_
  rintro e w1 ⟨r, rfl, rfl, hr⟩
  cases r with
  | false =>
    go_wp2_with fail
    go_ret
    exact ⟨rfl, Below.refl _ _⟩
  | true =>
  have HB : Hid (∀ i, i < n → M i ≤ 1048576) := hr rfl
  clear hr
  go_wp2_with fail
  refine (Fits.logFits a n cap T N M B _ HL.out hn HB.out).mono ?_
  rintro e w1 ⟨r, rfl, rfl, hr⟩
  cases r with
  | false =>
    go_wp2_with fail
    go_ret
    exact ⟨rfl, Below.refl _ _⟩
  | true =>
  have hn2 : n ≤ 32768 := hr rfl
  clear hr
  go_wp2_with fail
  refine (CloneL.cloneLog a n cap T N M B _ HL.out hn2 HB.out).mono ?_
  rintro e w2 ⟨a2, cap2, rfl, hl2, hb2⟩
  have HL2 : Hid (LogAt w2 (.slice a2 n cap2) n T N M B) := hl2
  clear hl2
  go_wp2_with fail
  refine (CloneL.entries a2 n cap2 T N M B _ HL2.out hn2 HB.out).mono ?_
  rintro e w3 ⟨a3, cap3, rfl, hl3, hb3⟩
  have HL3 : Hid (LogAt w3 (.slice a3 n cap3) n T N M B) := hl3
  clear hl3
  go_wp2_with fail
  refine (newNode a3 n cap3 _ _).mono ?_
  rintro e w4 ⟨rfl, hn4, hb4⟩
  have HN4 : Hid (NodeAt w3.heap.size (.slice a3 n cap3) ci w4) := hn4
  have HL4 : Hid (LogAt w4 (.slice a3 n cap3) n T N M B) := HL3.out.below hb4
  clear hn4
  go_wp2_with fail
  refine (Commit.committed w3.heap.size a3 n cap3 ci T N M B n _ hn2 HN4.out HL4.out (by omega) (by rw [if_neg (by omega)])).mono ?_
  rintro e w5 ⟨a5, c5, xs5, rfl, hown5, hl5, hb5⟩
  have HG : Hid (Got w4.heap.size a5 c5 n 0 T N w5) := got_start hown5 hl5
  clear hown5 hl5
  have hkk : ((n : Int) != (n : Int)) = false := by simp
  go_wp2_with fail
  go_loopw [8, 9] (fun i _ wr => ∃ j : Nat, j ≤ n ∧ i = .int .i64 j ∧ Below w4.heap.size w4 wr ∧ Hid (Got w4.heap.size a5 c5 n j T N wr)) (fun i _ _ => n - (intOf i).toNat)
  case atStart => exact ⟨0, Nat.zero_le _, rfl, hb5, HG⟩
  case round =>
    obtain ⟨j, hj, rfl, hbw, hg⟩ := hrel
    by_cases hlt : j < n
    · clear HG
      rcases hg.out with ⟨hk0, _⟩ | ⟨g, rfl, hlo, hkc, hcm, hrow⟩
      · omega
      have HR : Hid (GotRow g c5 n j T N wr) := hrow
      obtain ⟨f, hr, hf⟩ := hrow
      obtain ⟨f0, f1, fa, fm, fc, f2⟩ := hf j (Nat.le_refl _) hlt
      have d0 : wr.cell? ⟨g, j * 3, none⟩ = some (.int .u64 (T j)) := by rw [hr.cell (by omega), f0]
      have d1 : wr.cell? ⟨g, j * 3 + 1, none⟩ = some (.bool (N j)) := by rw [hr.cell (by omega), f1]
      have d2 : wr.cell? ⟨g, j * 3 + 2, none⟩ = some (.slice fa fm fc) := by rw [hr.cell (by omega), f2]
      have z0 := hr.frozen (j * 3)
      have z1 := hr.frozen (j * 3 + 1)
      have z2 := hr.frozen (j * 3 + 2)
      have hgl := hr.lt
      clear hr hf f0 f1 f2 hg
      have HCM : Hid (c5 ≤ maxLen) := hcm
      clear hcm
      go_wp2_with fail
      exact ⟨⟨j + 1, by omega, by go_num, LogB.stepA (((hbw.setCell hlo _).setCell hlo _).setCell hlo _) _, .inr ⟨g, rfl, hlo, hkc, HCM.out, (HR.out.set _ _ _).alloc _⟩⟩, by simp [intOf]; omega⟩
    · obtain ⟨xs, hxs⟩ := hg.out.owns
      have HX : Hid ((wr.alloc (.cells #[.int .u64 18446744073709551615, .bool true, .slice none 0 0] 37)).ownsRow w4.heap.size 37 3 (.slice a5 n c5) n xs) := owns_alloc hxs _
      have HW : Hid (∀ i u, [Value.int .u64 18446744073709551615, .bool true, .slice none 0 0][i]? = some u → (wr.alloc (.cells #[.int .u64 18446744073709551615, .bool true, .slice none 0 0] 37)).cell? ((⟨wr.heap.size, 0, none⟩ : Addr).add i) = some u) := World.news_of_block (blk_alloc_new wr _)
      have hbw2 : Below w4.heap.size w4 (wr.alloc (.cells #[.int .u64 18446744073709551615, .bool true, .slice none 0 0] 37)) := LogB.stepA hbw _
      clear HG hg hxs
      go_wp2_with (at_builtin; refine Go.wpList_append_lies _ rfl _ _ _ rfl w4.heap.size 37 Try.t37 (.agg #[.int .u64 0, .bool false, .slice none 0 0]) 3 40 Try.underlying29 Commit.i37 Commit.i37z Commit.i37s Commit.i37b rfl (by omega) (.slice a5 n c5) n xs rfl HX.out ⟨wr.heap.size, 0, none⟩ 1 1 [.int .u64 18446744073709551615, .bool true, .slice none 0 0] rfl rfl HW.out one_last (by omega) (by unfold maxLen; omega) (by omega) hbw2.size _ rfl ?_; intro g6 c6 w6 hown6 hgrow6 hat6 hlt6)
      have hb6 : Below w4.heap.size w4 w6 := hbw2.grown hgrow6 hbw2.size (own_ge HX.out)
      have HN6 : Hid (NodeAt w3.heap.size (.slice a3 n cap3) ci w6) := HN4.out.below hb6
      have HL6 : Hid (LogAt w6 (.slice a3 n cap3) n T N M B) := HL4.out.below hb6
      have HG6 : Hid (LogAt w6 (.slice a2 n cap2) n T N M B) := ((HL2.out.below hb3).below hb4).below hb6
      have hb06 : Below w1.heap.size w1 w6 := LogB.step (LogB.step (LogB.step hb2 hb3) hb4) hb6
      clear hown6 hgrow6 hat6 hlt6 HX HW hbw2 hbw HN4 HL4 HL3 HL2 hb2 hb3 hb4 hb5 hb6 HM HL hlt hj
      refine (Commit.committed w3.heap.size a3 n cap3 ci T N M B n _ hn2 HN6.out HL6.out (by omega) (by rw [if_neg (by omega)])).mono ?_
      rintro e w7 ⟨a7, c7, xs7, rfl, _, hl7, hb7⟩
      have HA7 : Hid (LogAt w7 (.slice a7 n c7) n T N M B) := hl7
      have HG7 : Hid (LogAt w7 (.slice a2 n cap2) n T N M B) := HG6.out.below hb7
      have HN7 : Hid (NodeAt w3.heap.size (.slice a3 n cap3) ci w7) := HN6.out.below hb7
      have HL7 : Hid (LogAt w7 (.slice a3 n cap3) n T N M B) := HL6.out.below hb7
      clear hl7 HN6 HL6 HG6
      go_wp2_with fail
      go_loopw [11] (fun i wr => ∃ j : Nat, j ≤ n ∧ i = .int .u64 j ∧ Below w7.heap.size w7 wr) (fun i _ => n - (intOf i).toNat)
      case atStart => exact ⟨0, Nat.zero_le _, rfl, Below.refl _ _⟩
      case round =>
        obtain ⟨j, hj, rfl, hbw⟩ := hrel
        by_cases hlt : j < n
        · obtain ⟨b1, o1, ca1, cc1, rfl, p0, p1, p2, p3⟩ := log_entry HA7.out hlt
          obtain ⟨b2, o2, ca2, cc2, rfl, q0, q1, q2, q3⟩ := log_entry HG7.out (show j < n by omega)
          have p0 := keep hbw p0
          have p1 := keep hbw p1
          have p2 := keep hbw p2
          have q0 := keep hbw q0
          have q1 := keep hbw q1
          have q2 := keep hbw q2
          have P3 : Hid (BytesAt 0 wr.drew (.slice ca1 (M j) cc1) (M j) (B j)) := (p3.below hbw).below (Below.refl _ _).drew
          have Q3 : Hid (BytesAt 0 wr.drew (.slice ca2 (M j) cc2) (M j) (B j)) := (q3.below hbw).below (Below.refl _ _).drew
          have hMj := HB.out j (by omega)
          have i0 : (0 : Int) ≤ (j : Int) := by omega
          have i1 : (j : Int) < (n : Int) := by omega
          have i2 : (j : Int) < (n : Int) := by omega
          clear p3 q3
          go_wp2_with fail
          go_region_held3 (fun w' => w'.cell? ⟨b1, o1 + j * 3, none⟩ = some (.int .u64 (T j)) ∧ w'.cell? ⟨b1, o1 + j * 3 + 1, none⟩ = some (.bool (N j)) ∧ w'.cell? ⟨b1, o1 + j * 3 + 2, none⟩ = some (.slice ca1 (M j) cc1)
              ∧ w'.cell? ⟨b2, o2 + j * 3, none⟩ = some (.int .u64 (T j)) ∧ w'.cell? ⟨b2, o2 + j * 3 + 1, none⟩ = some (.bool (N j)) ∧ w'.cell? ⟨b2, o2 + j * 3 + 2, none⟩ = some (.slice ca2 (M j) cc2))
            (first | exact ⟨p0, p1, p2, q0, q1, q2⟩ | exact ⟨keep hb8 p0, keep hb8 p1, keep hb8 p2, keep hb8 q0, keep hb8 q1, keep hb8 q2⟩)
            ((go_at_call 16; refine (sameEntry _ _ _ _ _ _ (M j) (B j) _ hMj P3.out Q3.out).mono ?_; rintro e w8 ⟨rfl, hb8⟩))
          go_wp2_with fail
          exact ⟨⟨j + 1, by omega, by go_num, LogB.step hbw.drew hb8⟩, by simp [intOf]; omega⟩
        · have hwr := wrap_succ n (by omega)
          have hb07 : Below w1.heap.size w1 wr := LogB.step (LogB.step hb06 hb7) hbw
          clear HN7 HL7 hbw hb7 hb06
          go_wp2_with fail
          go_ret
          exact ⟨rfl, hb07⟩

end Go.Proofs.Qxb6617010a.HandsOut
