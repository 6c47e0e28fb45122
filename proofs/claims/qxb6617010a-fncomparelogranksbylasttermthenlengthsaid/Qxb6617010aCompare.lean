import Derived.Test.Qxb6617010aNodeL
namespace Go.Proofs.Qxb6617010a.Compare
open Go.RowKit Go.Proofs.Qxb6617010a.LogB Go.Proofs.Qxb6617010a.NodeL

/-- -1, 0 or 1 as x is below, equal to or above y. -/
def cmpI (x y : Int) : Int := if x < y then -1 else if y < x then 1 else 0
/-- The lexicographic comparison of two pairs. -/
def lex (a b c d : Int) : Int := if a < c then -1 else if c < a then 1 else if b < d then -1 else if d < b then 1 else 0
/-- The last of n terms; 0 where there is none. -/
def lastT (n : Nat) (T : Nat → Int) : Int := if n = 0 then 0 else T (n - 1)

theorem lex_self (a b : Int) : lex a b a b = 0 := by simp [lex]
theorem lex_neg (a b c d : Int) : lex a b c d = - lex c d a b := by unfold lex; split <;> split <;> (try omega) <;> split <;> split <;> (try omega) <;> split <;> split <;> omega
theorem lex_bd (a b c d : Int) : -1 ≤ lex a b c d ∧ lex a b c d ≤ 1 := by unfold lex; split; omega; split; omega; split; omega; split <;> omega

set_option maxHeartbeats 400000 in
theorem cmpTerm (x y : Int) (w : World) : Calls Try.prog 34 #[.int .u64 x, .int .u64 y] w fun e w' => e = .returned (.int .i64 (cmpI x y)) ∧ w' = w := by
  have hx : (x != x) = false := by simp
  have hy : (y != y) = false := by simp
  by_cases h1 : x < y
  · have e : cmpI x y = -1 := by simp [cmpI, h1]
    rw [e]
    go_enter Try.func34, Try.ntmps34
    go_wp2
    go_ret
    exact ⟨rfl, rfl⟩
  · by_cases h2 : y < x
    · have e : cmpI x y = 1 := by simp [cmpI, h1, h2]
      rw [e]
      clear e
      go_enter Try.func34, Try.ntmps34
      go_wp2
      go_ret
      exact ⟨rfl, rfl⟩
    · have e : cmpI x y = 0 := by simp [cmpI, h1, h2]
      rw [e]
      clear e
      go_enter Try.func34, Try.ntmps34
      go_wp2
      go_ret
      exact ⟨rfl, rfl⟩

set_option maxHeartbeats 400000 in
theorem cmpU64 (x y : Int) (w : World) : Calls Try.prog 35 #[.int .u64 x, .int .u64 y] w fun e w' => e = .returned (.int .i64 (cmpI x y)) ∧ w' = w := by
  have hx : (x != x) = false := by simp
  have hy : (y != y) = false := by simp
  by_cases h1 : x < y
  · have e : cmpI x y = -1 := by simp [cmpI, h1]
    rw [e]
    go_enter Try.func35, Try.ntmps35
    go_wp2
    go_ret
    exact ⟨rfl, rfl⟩
  · by_cases h2 : y < x
    · have e : cmpI x y = 1 := by simp [cmpI, h1, h2]
      rw [e]
      clear e
      go_enter Try.func35, Try.ntmps35
      go_wp2
      go_ret
      exact ⟨rfl, rfl⟩
    · have e : cmpI x y = 0 := by simp [cmpI, h1, h2]
      rw [e]
      clear e
      go_enter Try.func35, Try.ntmps35
      go_wp2
      go_ret
      exact ⟨rfl, rfl⟩

set_option maxHeartbeats 400000 in
theorem lawCompare (a b c d : Int) (w : World) : Calls Try.prog 22 #[.int .u64 a, .int .u64 b, .int .u64 c, .int .u64 d] w fun e w' => e = .returned (.int .i64 (lex a b c d)) ∧ w' = w := by
  by_cases h1 : a < c
  · have e : lex a b c d = -1 := by simp [lex, h1]
    rw [e]
    clear e
    go_enter Try.func22, Try.ntmps22
    go_wp2
    go_ret
    exact ⟨rfl, rfl⟩
  · by_cases h2 : c < a
    · have e : lex a b c d = 1 := by simp [lex, h1, h2]
      rw [e]
      clear e
      go_enter Try.func22, Try.ntmps22
      go_wp2
      go_ret
      exact ⟨rfl, rfl⟩
    · by_cases h3 : b < d
      · have e : lex a b c d = -1 := by simp [lex, h1, h2, h3]
        rw [e]
        clear e
        go_enter Try.func22, Try.ntmps22
        go_wp2
        go_ret
        exact ⟨rfl, rfl⟩
      · by_cases h4 : d < b
        · have e : lex a b c d = 1 := by simp [lex, h1, h2, h3, h4]
          rw [e]
          clear e
          go_enter Try.func22, Try.ntmps22
          go_wp2
          go_ret
          exact ⟨rfl, rfl⟩
        · have e : lex a b c d = 0 := by simp [lex, h1, h2, h3, h4]
          rw [e]
          clear e
          go_enter Try.func22, Try.ntmps22
          go_wp2
          go_ret
          exact ⟨rfl, rfl⟩

set_option maxHeartbeats 400000 in
theorem lawLastTerm (a : Option Addr) (n cap : Nat) (T : Nat → Int) (N : Nat → Bool) (M : Nat → Nat) (B : Nat → Nat → Int) (w : World) (hn : n ≤ 1048576) (h : LogAt w (.slice a n cap) n T N M B) :
    Calls Try.prog 21 #[.slice a n cap] w fun e w' => e = .returned (.int .u64 (lastT n T)) ∧ w' = w := by
  by_cases h0 : n = 0
  · subst h0
    go_enter Try.func21, Try.ntmps21
    go_wp2
    go_ret
    exact ⟨rfl, rfl⟩
  · obtain ⟨a', cap', hv, _, h⟩ := h
    cases hv
    rcases h with h | ⟨b, off, rfl, h⟩
    · exact absurd h h0
    obtain ⟨c, s0, _⟩ := h (n - 1) (by omega)
    have e : lastT n T = T (n - 1) := by simp [lastT, h0]
    rw [e]
    have hz : ((n : Int) == 0) = false := beq_eq_false_iff_ne.2 (by omega)
    have hp : 0 < n := by omega
    clear e h h0
    go_enter Try.func21, Try.ntmps21
    go_wp2
    go_ret
    exact ⟨rfl, rfl⟩

set_option maxHeartbeats 400000 in
theorem termAt (b : Nat) (a : Option Addr) (n cap : Nat) (ci : Int) (T : Nat → Int) (N : Nat → Bool) (M : Nat → Nat) (B : Nat → Nat → Int) (w : World) (hn : n ≤ 1048576) (hd : NodeAt b (.slice a n cap) ci w) (h : LogAt w (.slice a n cap) n T N M B) :
    Calls Try.prog 33 #[.pointer (some ⟨b, 0, none⟩), .int .u64 (n : Int)] w fun e w' => e = .returned (.int .u64 (lastT n T)) ∧ w' = w := by
  obtain ⟨_, hlog, _⟩ := hd
  by_cases h0 : n = 0
  · subst h0
    go_enter Try.func33, Try.ntmps33
    go_wp2
    go_ret
    exact ⟨rfl, rfl⟩
  · obtain ⟨a', cap', hv, _, h⟩ := h
    cases hv
    rcases h with h | ⟨b', off, rfl, h⟩
    · exact absurd h h0
    obtain ⟨c, s0, _⟩ := h (n - 1) (by omega)
    have e : lastT n T = T (n - 1) := by simp [lastT, h0]
    rw [e]
    have hz : ((n : Int) == 0) = false := beq_eq_false_iff_ne.2 (by omega)
    have hp : 0 < n := by omega
    clear e h h0
    go_enter Try.func33, Try.ntmps33
    go_wp2
    go_ret
    exact ⟨rfl, rfl⟩

set_option maxHeartbeats 400000 in
theorem compareLog (b : Nat) (a : Option Addr) (n cap : Nat) (ci lt li : Int) (T : Nat → Int) (N : Nat → Bool) (M : Nat → Nat) (B : Nat → Nat → Int) (w : World) (hn : n ≤ 1048576) (hd : NodeAt b (.slice a n cap) ci w) (h : LogAt w (.slice a n cap) n T N M B) :
    Calls Try.prog 30 #[.pointer (some ⟨b, 0, none⟩), .int .u64 lt, .int .u64 li] w fun e w' => e = .returned (.int .i64 (lex lt li (lastT n T) n)) ∧ w' = w := by
  have HD : Hid (NodeAt b (.slice a n cap) ci w) := hd
  have HL : Hid (LogAt w (.slice a n cap) n T N M B) := h
  have HLT : Hid (lex lt li (lastT n T) n = if (lt != lastT n T) = true then cmpI lt (lastT n T) else cmpI li n) := by
    show _ = _
    unfold lex cmpI
    by_cases h1 : lt < lastT n T
    · have : lt ≠ lastT n T := by omega
      simp [h1, this]
    · by_cases h2 : lastT n T < lt
      · have : lt ≠ lastT n T := by omega
        simp [h1, h2, this]
      · have : lt = lastT n T := by omega
        simp [this]
  clear hd h
  generalize lex lt li (lastT n T) n = r at *
  generalize hq : lastT n T = q at *
  have HQ : Hid (lastT n T = q) := hq
  clear hq
  cases hne : (lt != q) with
  | true =>
    have hr : r = cmpI lt q := by have := HLT.out; rw [hne] at this; simpa using this
    subst hr
    clear HLT
    go_enter Try.func30, Try.ntmps30
    go_wp2_with fail
    refine (lastIndex b a n cap ci _ hn HD.out).mono ?_
    rintro e w1 ⟨rfl, rfl⟩
    go_wp2_with fail
    refine (termAt b a n cap ci T N M B _ hn HD.out HL.out).mono ?_
    rintro e w2 ⟨rfl, rfl⟩
    rw [HQ.out]
    go_wp2_with fail
    refine (cmpTerm _ _ _).mono ?_
    rintro e w2 ⟨rfl, rfl⟩
    go_wp2_with fail
    go_ret
    exact ⟨rfl, rfl⟩
  | false =>
    have hr : r = cmpI li n := by have := HLT.out; rw [hne] at this; simpa using this
    subst hr
    clear HLT
    go_enter Try.func30, Try.ntmps30
    go_wp2_with fail
    refine (lastIndex b a n cap ci _ hn HD.out).mono ?_
    rintro e w1 ⟨rfl, rfl⟩
    go_wp2_with fail
    refine (termAt b a n cap ci T N M B _ hn HD.out HL.out).mono ?_
    rintro e w2 ⟨rfl, rfl⟩
    rw [HQ.out]
    go_wp2_with fail
    refine (lastIndex b a n cap ci _ hn HD.out).mono ?_
    rintro e w1 ⟨rfl, rfl⟩
    go_wp2_with fail
    refine (cmpU64 _ _ _).mono ?_
    rintro e w2 ⟨rfl, rfl⟩
    go_wp2_with fail
    go_ret
    exact ⟨rfl, rfl⟩

set_option maxHeartbeats 400000 in
theorem zcompareLog (b : Nat) (a : Option Addr) (n cap : Nat) (ci lt li : Int) (T : Nat → Int) (N : Nat → Bool) (M : Nat → Nat) (B : Nat → Nat → Int) (w : World) (hn : n ≤ 1048576) (hd : NodeAt b (.slice a n cap) ci w) (h : LogAt w (.slice a n cap) n T N M B) :
    Calls Try.prog 20 #[.pointer (some ⟨b, 0, none⟩), .int .u64 lt, .int .u64 li] w fun e w' => e = .returned (.int .i64 (lex lt li (lastT n T) n)) ∧ w' = w := by
  have HD : Hid (NodeAt b (.slice a n cap) ci w) := hd
  have HL : Hid (LogAt w (.slice a n cap) n T N M B) := h
  clear hd h
  go_enter Try.func20, Try.ntmps20
  go_wp2_with fail
  refine (compareLog b a n cap ci lt li T N M B _ hn HD.out HL.out).mono ?_
  rintro e w1 ⟨rfl, rfl⟩
  go_wp2_with fail
  go_ret
  exact ⟨rfl, rfl⟩

/-- EntryAt at the log's length: the last entry. -/
theorem entryLast (b : Nat) (a : Option Addr) (n cap : Nat) (ci : Int) (T : Nat → Int) (N : Nat → Bool) (M : Nat → Nat) (B : Nat → Nat → Int) (w : World) (hn : n ≤ 1048576) (h : NodeAt b (.slice a n cap) ci w) (hl : LogAt w (.slice a n cap) n T N M B) (hp : 0 < n) :
    Calls Try.prog 17 #[.pointer (some ⟨b, 0, none⟩), .int .u64 (n : Int)] w (Entry (lastT n T) (N (n - 1)) (M (n - 1)) (B (n - 1)) w) := by
  have := entryAt b a n cap ci T N M B (n - 1) w hn h hl (by omega)
  rw [show (((n - 1 : Nat) : Int) + 1) = (n : Int) by omega] at this
  have e : lastT n T = T (n - 1) := by unfold lastT; rw [if_neg (by omega)]
  rw [e]
  exact this

end Go.Proofs.Qxb6617010a.Compare
