import Derived.Test.Qxb6603928aStrMany
namespace Go.Proofs.Qxb6603928a
open Go.ChangeShapes Go.WideShapes Go.ChangeAt Go.RowKit
set_option linter.unusedSimpArgs false
set_option linter.unusedVariables false

theorem bytes10_no (s : ByteArray) (i : Int) (hm : s.size ≤ maxLen) (h : 1048576 < s.size) (w : World) :
    Calls Try.prog 10 #[.string s, .int .i64 i] w fun e w' => e = .returned (.bool false) ∧ w' = w := by
  unfold maxLen at hm
  have h' : (1048576 : Int) < (s.size : Int) := by omega
  go_enter Try.func10, Try.ntmps10
  go_wp2
  go_ret
  exact ⟨rfl, rfl⟩
theorem bytes10_yes (s : ByteArray) (i : Int) (h : s.size ≤ 1048576) (w : World) :
    Calls Try.prog 10 #[.string s, .int .i64 i] w fun e w' => e = .returned (.bool true) ∧ w' = w := by
  have h' : (s.size : Int) ≤ 1048576 := by omega
  go_enter Try.func10, Try.ntmps10
  go_wp2
  go_ret
  exact ⟨rfl, rfl⟩

def isQ (c : Int) : Bool := c == 34 || c == 39
theorem isQuote_any (c : Int) (w : World) : Calls Try.prog 7 #[.int .u8 c] w fun e w' => e = .returned (.bool (isQ c)) ∧ w' = w := by
  unfold isQ
  cases h1 : (c == 34) with
  | true =>
    go_enter Try.func7, Try.ntmps7
    go_wp2
    go_ret
    exact ⟨rfl, rfl⟩
  | false =>
    go_enter Try.func7, Try.ntmps7
    go_wp2
    go_ret
    exact ⟨rfl, rfl⟩

theorem zzEnd_any (s : ByteArray) (i : Nat) (hi : i < s.size) (hs : s.size ≤ 1048576) (hq : byteAt s i = 34 ∨ byteAt s i = 39) (w : World) :
    Calls Try.prog 8 #[.string s, .int .i64 (i : Int)] w fun e w' => e = .returned (.int .i64 (strEnd (byteAt s) s.size i : Nat)) ∧ Below w.heap.size w w' := by
  go_enter Try.func8, Try.ntmps8
  go_wp2_with (go_at_call 14; refine (stringEnd_any s i hi hs hq _).mono ?_; rintro e w' ⟨rfl, hb⟩)
  go_ret
  exact ⟨rfl, hb⟩

/-- What the law asks of the end. -/
theorem strEnd_spec (b : Nat → Int) (n i : Nat) (hi : i < n) :
    i < strEnd b n i ∧ strEnd b n i ≤ n ∧
    (strEnd b n i < n → multi b n i = false → i + 2 ≤ strEnd b n i ∧ b (strEnd b n i - 1) = b i) ∧
    (strEnd b n i < n → multi b n i = true → i + 6 ≤ strEnd b n i ∧ b (strEnd b n i - 1) = b i ∧ b (strEnd b n i - 2) = b i ∧ b (strEnd b n i - 3) = b i ∧ b (strEnd b n i) ≠ b i) := by
  unfold strEnd
  cases hm : multi b n i with
  | false =>
    simp only [Bool.false_eq_true, if_false]
    rcases end1_spec b n (b i == 34) (b i) n (i + 1) (by omega) (by omega) with h | ⟨h1, h2, h3⟩
    · exact ⟨by omega, by omega, fun h' => by omega, fun h' => by omega⟩
    · exact ⟨by omega, h2, fun _ _ => ⟨by omega, h3⟩, fun _ h' => (by cases h')⟩
  | true =>
    simp only [if_true]
    have h4 := multi_lt hm
    rcases end3_spec b n (b i == 34) (b i) (i + 3) n (i + 3) 0 (by omega) (by omega) (by omega) (fun k hk => absurd hk (Nat.not_lt_zero _)) with h | ⟨h1, h2, h3, h5, h6, h7⟩
    · exact ⟨by omega, by omega, fun h' => by omega, fun h' => by omega⟩
    · exact ⟨by omega, by omega, fun _ h' => (by cases h'), fun _ _ => ⟨by omega, h3, h5, h6, h7⟩⟩

theorem closes_walk_out (s : ByteArray) (a : Int) (hm : s.size ≤ maxLen) (w : World) (h : 1048576 < s.size ∨ (s.size ≤ 1048576 ∧ (a < 0 ∨ (s.size : Int) ≤ a))) :
    Calls Try.prog 4 #[.string s, .int .i64 a] w fun e w' => e = .returned (.bool true) ∧ Below w.heap.size w w' := by
  rcases h with h | ⟨h, ha⟩
  · go_enter Try.func4, Try.ntmps4
    go_wp2_with (go_at_call 10; refine (bytes10_no s a hm h _).mono ?_; rintro e w' ⟨rfl, rfl⟩)
    go_ret
    exact ⟨rfl, Below.refl _ _⟩
  · have h' : (s.size : Int) ≤ 1048576 := by omega
    rcases ha with ha | ha
    · go_enter Try.func4, Try.ntmps4
      go_wp2_with (go_at_call 10; refine (bytes10_yes s a h _).mono ?_; rintro e w' ⟨rfl, rfl⟩)
      go_ret
      exact ⟨rfl, Below.refl _ _⟩
    · have ha2 : ¬ a < 0 := by omega
      go_enter Try.func4, Try.ntmps4
      go_wp2_with (go_at_call 10; refine (bytes10_yes s a h _).mono ?_; rintro e w' ⟨rfl, rfl⟩)
      go_ret
      exact ⟨rfl, Below.refl _ _⟩

theorem closes_walk_no (s : ByteArray) (i : Nat) (h : s.size ≤ 1048576) (hi : i < s.size) (hq : isQ (byteAt s i) = false) (w : World) :
    Calls Try.prog 4 #[.string s, .int .i64 (i : Int)] w fun e w' => e = .returned (.bool true) ∧ Below w.heap.size w w' := by
  have hb := byteAt_eq s i hi
  have h' : (s.size : Int) ≤ 1048576 := by omega
  have hi' : (i : Int) < (s.size : Int) := by omega
  generalize byteAt s i = q at *
  go_enter Try.func4, Try.ntmps4
  go_wp2_with (first | (go_at_call 10; refine (bytes10_yes s i h _).mono ?_; rintro e w' ⟨rfl, rfl⟩) | (go_at_call 7; refine (isQuote_any q _).mono ?_; rintro e w' ⟨rfl, rfl⟩))
  go_ret
  exact ⟨rfl, Below.refl _ _⟩

set_option maxHeartbeats 1000000 in
theorem closes_a_last (s : ByteArray) (i R : Nat) (h : s.size ≤ 1048576) (hi : i < s.size) (hQ : isQ (byteAt s i) = true) (r1 : i < R) (r2 : R ≤ s.size)
    (g : ¬ i + 2 < s.size) (hn : R = s.size) (w : World)
    (HZ : Hid (∀ w, Calls Try.prog 8 #[.string s, .int .i64 (i : Int)] w fun e w' => e = .returned (.int .i64 (R : Int)) ∧ Below w.heap.size w w')) :
    Calls Try.prog 4 #[.string s, .int .i64 (i : Int)] w fun e w' => e = .returned (.bool true) ∧ Below w.heap.size w w' := by
  have hb := byteAt_eq s i hi
  have h' : (s.size : Int) ≤ 1048576 := by omega
  have hi' : (i : Int) < (s.size : Int) := by omega
  have r1' : (i : Int) < (R : Int) := by omega
  have r2' : (R : Int) ≤ (s.size : Int) := by omega
  have g0 : decide ((i : Int) + 2 < (s.size : Int)) = false := by simp; omega
  have hn' : ((R : Int) == (s.size : Int)) = true := by simp [hn]
  clear hn
  generalize byteAt s i = q at *
  go_enter Try.func4, Try.ntmps4
  go_wp2_with (first | (go_at_call 10; refine (bytes10_yes s i h _).mono ?_; rintro e w' ⟨rfl, rfl⟩) | (go_at_call 7; refine (isQuote_any q _).mono ?_; rintro e w' ⟨rfl, rfl⟩) | (go_at_call 8; refine (HZ.out _).mono ?_; rintro e w' ⟨rfl, hbel⟩))
  go_ret
  exact ⟨rfl, hbel⟩

set_option maxHeartbeats 1000000 in
theorem closes_a_in (s : ByteArray) (i R : Nat) (h : s.size ≤ 1048576) (hi : i < s.size) (hQ : isQ (byteAt s i) = true) (r1 : i < R) (r2 : R ≤ s.size)
    (g : ¬ i + 2 < s.size) (hn : R < s.size) (r5 : i + 2 ≤ R) (t1 : byteAt s (R - 1) = byteAt s i) (w : World)
    (HZ : Hid (∀ w, Calls Try.prog 8 #[.string s, .int .i64 (i : Int)] w fun e w' => e = .returned (.int .i64 (R : Int)) ∧ Below w.heap.size w w')) :
    Calls Try.prog 4 #[.string s, .int .i64 (i : Int)] w fun e w' => e = .returned (.bool true) ∧ Below w.heap.size w w' := by
  exfalso; omega

set_option maxHeartbeats 1000000 in
theorem closes_b_last (s : ByteArray) (i R : Nat) (h : s.size ≤ 1048576) (hi : i < s.size) (hQ : isQ (byteAt s i) = true) (r1 : i < R) (r2 : R ≤ s.size)
    (g : i + 2 < s.size) (e1 : byteAt s (i + 1) ≠ byteAt s i) (hn : R = s.size) (w : World)
    (HZ : Hid (∀ w, Calls Try.prog 8 #[.string s, .int .i64 (i : Int)] w fun e w' => e = .returned (.int .i64 (R : Int)) ∧ Below w.heap.size w w')) :
    Calls Try.prog 4 #[.string s, .int .i64 (i : Int)] w fun e w' => e = .returned (.bool true) ∧ Below w.heap.size w w' := by
  have hb := byteAt_eq s i hi
  have h' : (s.size : Int) ≤ 1048576 := by omega
  have hi' : (i : Int) < (s.size : Int) := by omega
  have r1' : (i : Int) < (R : Int) := by omega
  have r2' : (R : Int) ≤ (s.size : Int) := by omega
  have g0 : (i : Int) + 2 < (s.size : Int) := by omega
  have hb1 := byteAt_eq s (i + 1) (Nat.lt_of_succ_lt g)
  obtain ⟨c1, hc1⟩ : ∃ c1, byteAt s (i + 1) = c1 := ⟨_, rfl⟩
  rw [hc1] at hb1 e1
  have q1 : (c1 == byteAt s i) = false := by simpa using e1
  clear e1 hc1
  have hn' : ((R : Int) == (s.size : Int)) = true := by simp [hn]
  clear hn
  generalize byteAt s i = q at *
  go_enter Try.func4, Try.ntmps4
  go_wp2_with (first | (go_at_call 10; refine (bytes10_yes s i h _).mono ?_; rintro e w' ⟨rfl, rfl⟩) | (go_at_call 7; refine (isQuote_any q _).mono ?_; rintro e w' ⟨rfl, rfl⟩) | (go_at_call 8; refine (HZ.out _).mono ?_; rintro e w' ⟨rfl, hbel⟩))
  go_ret
  exact ⟨rfl, hbel⟩

set_option maxHeartbeats 1000000 in
theorem closes_b_in (s : ByteArray) (i R : Nat) (h : s.size ≤ 1048576) (hi : i < s.size) (hQ : isQ (byteAt s i) = true) (r1 : i < R) (r2 : R ≤ s.size)
    (g : i + 2 < s.size) (e1 : byteAt s (i + 1) ≠ byteAt s i) (hn : R < s.size) (r5 : i + 2 ≤ R) (t1 : byteAt s (R - 1) = byteAt s i) (w : World)
    (HZ : Hid (∀ w, Calls Try.prog 8 #[.string s, .int .i64 (i : Int)] w fun e w' => e = .returned (.int .i64 (R : Int)) ∧ Below w.heap.size w w')) :
    Calls Try.prog 4 #[.string s, .int .i64 (i : Int)] w fun e w' => e = .returned (.bool true) ∧ Below w.heap.size w w' := by
  have hb := byteAt_eq s i hi
  have h' : (s.size : Int) ≤ 1048576 := by omega
  have hi' : (i : Int) < (s.size : Int) := by omega
  have r1' : (i : Int) < (R : Int) := by omega
  have r2' : (R : Int) ≤ (s.size : Int) := by omega
  have g0 : (i : Int) + 2 < (s.size : Int) := by omega
  have hb1 := byteAt_eq s (i + 1) (Nat.lt_of_succ_lt g)
  obtain ⟨c1, hc1⟩ : ∃ c1, byteAt s (i + 1) = c1 := ⟨_, rfl⟩
  rw [hc1] at hb1 e1
  have q1 : (c1 == byteAt s i) = false := by simpa using e1
  clear e1 hc1
  have hn' : ((R : Int) == (s.size : Int)) = false := by simp; omega
  have hnl : (R : Int) < (s.size : Int) := by omega
  have hR1 := byteAt_eq s (R - 1) (by omega)
  rw [t1] at hR1
  have r5' : (i : Int) + 2 ≤ (R : Int) := by omega
  clear t1
  generalize byteAt s i = q at *
  go_enter Try.func4, Try.ntmps4
  go_wp2_with (first | (go_at_call 10; refine (bytes10_yes s i h _).mono ?_; rintro e w' ⟨rfl, rfl⟩) | (go_at_call 7; refine (isQuote_any q _).mono ?_; rintro e w' ⟨rfl, rfl⟩) | (go_at_call 8; refine (HZ.out _).mono ?_; rintro e w' ⟨rfl, hbel⟩))
  go_ret
  exact ⟨rfl, hbel⟩

set_option maxHeartbeats 1000000 in
theorem closes_c_last (s : ByteArray) (i R : Nat) (h : s.size ≤ 1048576) (hi : i < s.size) (hQ : isQ (byteAt s i) = true) (r1 : i < R) (r2 : R ≤ s.size)
    (g : i + 2 < s.size) (e1 : byteAt s (i + 1) = byteAt s i) (e2 : byteAt s (i + 2) ≠ byteAt s i) (hn : R = s.size) (w : World)
    (HZ : Hid (∀ w, Calls Try.prog 8 #[.string s, .int .i64 (i : Int)] w fun e w' => e = .returned (.int .i64 (R : Int)) ∧ Below w.heap.size w w')) :
    Calls Try.prog 4 #[.string s, .int .i64 (i : Int)] w fun e w' => e = .returned (.bool true) ∧ Below w.heap.size w w' := by
  have hb := byteAt_eq s i hi
  have h' : (s.size : Int) ≤ 1048576 := by omega
  have hi' : (i : Int) < (s.size : Int) := by omega
  have r1' : (i : Int) < (R : Int) := by omega
  have r2' : (R : Int) ≤ (s.size : Int) := by omega
  have g0 : (i : Int) + 2 < (s.size : Int) := by omega
  have hb1 := byteAt_eq s (i + 1) (Nat.lt_of_succ_lt g)
  rw [e1] at hb1
  have hb2 := byteAt_eq s (i + 2) g
  obtain ⟨c2, hc2⟩ : ∃ c2, byteAt s (i + 2) = c2 := ⟨_, rfl⟩
  rw [hc2] at hb2 e2
  have q2 : (c2 == byteAt s i) = false := by simpa using e2
  clear e1 e2 hc2
  have hn' : ((R : Int) == (s.size : Int)) = true := by simp [hn]
  clear hn
  generalize byteAt s i = q at *
  go_enter Try.func4, Try.ntmps4
  go_wp2_with (first | (go_at_call 10; refine (bytes10_yes s i h _).mono ?_; rintro e w' ⟨rfl, rfl⟩) | (go_at_call 7; refine (isQuote_any q _).mono ?_; rintro e w' ⟨rfl, rfl⟩) | (go_at_call 8; refine (HZ.out _).mono ?_; rintro e w' ⟨rfl, hbel⟩))
  go_ret
  exact ⟨rfl, hbel⟩

set_option maxHeartbeats 1000000 in
theorem closes_c_in (s : ByteArray) (i R : Nat) (h : s.size ≤ 1048576) (hi : i < s.size) (hQ : isQ (byteAt s i) = true) (r1 : i < R) (r2 : R ≤ s.size)
    (g : i + 2 < s.size) (e1 : byteAt s (i + 1) = byteAt s i) (e2 : byteAt s (i + 2) ≠ byteAt s i) (hn : R < s.size) (r5 : i + 2 ≤ R) (t1 : byteAt s (R - 1) = byteAt s i) (w : World)
    (HZ : Hid (∀ w, Calls Try.prog 8 #[.string s, .int .i64 (i : Int)] w fun e w' => e = .returned (.int .i64 (R : Int)) ∧ Below w.heap.size w w')) :
    Calls Try.prog 4 #[.string s, .int .i64 (i : Int)] w fun e w' => e = .returned (.bool true) ∧ Below w.heap.size w w' := by
  have hb := byteAt_eq s i hi
  have h' : (s.size : Int) ≤ 1048576 := by omega
  have hi' : (i : Int) < (s.size : Int) := by omega
  have r1' : (i : Int) < (R : Int) := by omega
  have r2' : (R : Int) ≤ (s.size : Int) := by omega
  have g0 : (i : Int) + 2 < (s.size : Int) := by omega
  have hb1 := byteAt_eq s (i + 1) (Nat.lt_of_succ_lt g)
  rw [e1] at hb1
  have hb2 := byteAt_eq s (i + 2) g
  obtain ⟨c2, hc2⟩ : ∃ c2, byteAt s (i + 2) = c2 := ⟨_, rfl⟩
  rw [hc2] at hb2 e2
  have q2 : (c2 == byteAt s i) = false := by simpa using e2
  clear e1 e2 hc2
  have hn' : ((R : Int) == (s.size : Int)) = false := by simp; omega
  have hnl : (R : Int) < (s.size : Int) := by omega
  have hR1 := byteAt_eq s (R - 1) (by omega)
  rw [t1] at hR1
  have r5' : (i : Int) + 2 ≤ (R : Int) := by omega
  clear t1
  generalize byteAt s i = q at *
  go_enter Try.func4, Try.ntmps4
  go_wp2_with (first | (go_at_call 10; refine (bytes10_yes s i h _).mono ?_; rintro e w' ⟨rfl, rfl⟩) | (go_at_call 7; refine (isQuote_any q _).mono ?_; rintro e w' ⟨rfl, rfl⟩) | (go_at_call 8; refine (HZ.out _).mono ?_; rintro e w' ⟨rfl, hbel⟩))
  go_ret
  exact ⟨rfl, hbel⟩

set_option maxHeartbeats 1000000 in
theorem closes_d_last (s : ByteArray) (i R : Nat) (h : s.size ≤ 1048576) (hi : i < s.size) (hQ : isQ (byteAt s i) = true) (r1 : i < R) (r2 : R ≤ s.size)
    (g : i + 2 < s.size) (e1 : byteAt s (i + 1) = byteAt s i) (e2 : byteAt s (i + 2) = byteAt s i) (hn : R = s.size) (w : World)
    (HZ : Hid (∀ w, Calls Try.prog 8 #[.string s, .int .i64 (i : Int)] w fun e w' => e = .returned (.int .i64 (R : Int)) ∧ Below w.heap.size w w')) :
    Calls Try.prog 4 #[.string s, .int .i64 (i : Int)] w fun e w' => e = .returned (.bool true) ∧ Below w.heap.size w w' := by
  have hb := byteAt_eq s i hi
  have h' : (s.size : Int) ≤ 1048576 := by omega
  have hi' : (i : Int) < (s.size : Int) := by omega
  have r1' : (i : Int) < (R : Int) := by omega
  have r2' : (R : Int) ≤ (s.size : Int) := by omega
  have g0 : (i : Int) + 2 < (s.size : Int) := by omega
  have hb1 := byteAt_eq s (i + 1) (Nat.lt_of_succ_lt g)
  rw [e1] at hb1
  have hb2 := byteAt_eq s (i + 2) g
  rw [e2] at hb2
  clear e1 e2
  have hn' : ((R : Int) == (s.size : Int)) = true := by simp [hn]
  clear hn
  generalize byteAt s i = q at *
  go_enter Try.func4, Try.ntmps4
  go_wp2_with (first | (go_at_call 10; refine (bytes10_yes s i h _).mono ?_; rintro e w' ⟨rfl, rfl⟩) | (go_at_call 7; refine (isQuote_any q _).mono ?_; rintro e w' ⟨rfl, rfl⟩) | (go_at_call 8; refine (HZ.out _).mono ?_; rintro e w' ⟨rfl, hbel⟩))
  go_ret
  exact ⟨rfl, hbel⟩

set_option maxHeartbeats 1000000 in
theorem closes_d_in (s : ByteArray) (i R : Nat) (h : s.size ≤ 1048576) (hi : i < s.size) (hQ : isQ (byteAt s i) = true) (r1 : i < R) (r2 : R ≤ s.size)
    (g : i + 2 < s.size) (e1 : byteAt s (i + 1) = byteAt s i) (e2 : byteAt s (i + 2) = byteAt s i) (hn : R < s.size) (r5 : i + 6 ≤ R) (t1 : byteAt s (R - 1) = byteAt s i) (t2 : byteAt s (R - 2) = byteAt s i) (t3 : byteAt s (R - 3) = byteAt s i) (t4 : byteAt s R ≠ byteAt s i) (w : World)
    (HZ : Hid (∀ w, Calls Try.prog 8 #[.string s, .int .i64 (i : Int)] w fun e w' => e = .returned (.int .i64 (R : Int)) ∧ Below w.heap.size w w')) :
    Calls Try.prog 4 #[.string s, .int .i64 (i : Int)] w fun e w' => e = .returned (.bool true) ∧ Below w.heap.size w w' := by
  have hb := byteAt_eq s i hi
  have h' : (s.size : Int) ≤ 1048576 := by omega
  have hi' : (i : Int) < (s.size : Int) := by omega
  have r1' : (i : Int) < (R : Int) := by omega
  have r2' : (R : Int) ≤ (s.size : Int) := by omega
  have g0 : (i : Int) + 2 < (s.size : Int) := by omega
  have hb1 := byteAt_eq s (i + 1) (Nat.lt_of_succ_lt g)
  rw [e1] at hb1
  have hb2 := byteAt_eq s (i + 2) g
  rw [e2] at hb2
  clear e1 e2
  have hn' : ((R : Int) == (s.size : Int)) = false := by simp; omega
  have hnl : (R : Int) < (s.size : Int) := by omega
  have hR1 := byteAt_eq s (R - 1) (by omega)
  rw [t1] at hR1
  have hR2 := byteAt_eq s (R - 2) (by omega)
  rw [t2] at hR2
  have hR3 := byteAt_eq s (R - 3) (by omega)
  rw [t3] at hR3
  have hR0 := byteAt_eq s R hn
  obtain ⟨c4, hc4⟩ : ∃ c4, byteAt s R = c4 := ⟨_, rfl⟩
  rw [hc4] at hR0 t4
  have q4 : (c4 != byteAt s i) = true := by simpa using t4
  have r5' : (i : Int) + 6 ≤ (R : Int) := by omega
  clear t1 t2 t3 t4 hc4
  generalize byteAt s i = q at *
  go_enter Try.func4, Try.ntmps4
  go_wp2_with (first | (go_at_call 10; refine (bytes10_yes s i h _).mono ?_; rintro e w' ⟨rfl, rfl⟩) | (go_at_call 7; refine (isQuote_any q _).mono ?_; rintro e w' ⟨rfl, rfl⟩) | (go_at_call 8; refine (HZ.out _).mono ?_; rintro e w' ⟨rfl, hbel⟩))
  go_ret
  exact ⟨rfl, hbel⟩

theorem closes_walk_yes (s : ByteArray) (i : Nat) (h : s.size ≤ 1048576) (hi : i < s.size) (hq : byteAt s i = 34 ∨ byteAt s i = 39) (w : World) :
    Calls Try.prog 4 #[.string s, .int .i64 (i : Int)] w fun e w' => e = .returned (.bool true) ∧ Below w.heap.size w w' := by
  have hQ : isQ (byteAt s i) = true := by unfold isQ; rcases hq with e | e <;> rw [e] <;> rfl
  obtain ⟨r1, r2, r3, r4⟩ := strEnd_spec (byteAt s) s.size i hi
  have HZ : Hid (∀ w, Calls Try.prog 8 #[.string s, .int .i64 (i : Int)] w fun e w' => e = .returned (.int .i64 (strEnd (byteAt s) s.size i : Nat)) ∧ Below w.heap.size w w') := fun w => zzEnd_any s i hi h hq w
  generalize strEnd (byteAt s) s.size i = R at *
  by_cases g : i + 2 < s.size
  · by_cases e1 : byteAt s (i + 1) = byteAt s i
    · by_cases e2 : byteAt s (i + 2) = byteAt s i
      · have hm : multi (byteAt s) s.size i = true := by unfold multi; simp [g, e1, e2]
        by_cases hn : R = s.size
        · exact closes_d_last s i R h hi hQ r1 r2 g e1 e2 hn w HZ
        · obtain ⟨r5, t1, t2, t3, t4⟩ := r4 (by omega) hm
          exact closes_d_in s i R h hi hQ r1 r2 g e1 e2 (by omega) r5 t1 t2 t3 t4 w HZ
      · have hm : multi (byteAt s) s.size i = false := by unfold multi; simp [e2]
        by_cases hn : R = s.size
        · exact closes_c_last s i R h hi hQ r1 r2 g e1 e2 hn w HZ
        · obtain ⟨r5, t1⟩ := r3 (by omega) hm
          exact closes_c_in s i R h hi hQ r1 r2 g e1 e2 (by omega) r5 t1 w HZ
    · have hm : multi (byteAt s) s.size i = false := by unfold multi; simp [e1]
      by_cases hn : R = s.size
      · exact closes_b_last s i R h hi hQ r1 r2 g e1 hn w HZ
      · obtain ⟨r5, t1⟩ := r3 (by omega) hm
        exact closes_b_in s i R h hi hQ r1 r2 g e1 (by omega) r5 t1 w HZ
  · have hm : multi (byteAt s) s.size i = false := by unfold multi; simp [g]
    by_cases hn : R = s.size
    · exact closes_a_last s i R h hi hQ r1 r2 g hn w HZ
    · obtain ⟨r5, t1⟩ := r3 (by omega) hm
      exact closes_a_in s i R h hi hQ r1 r2 g (by omega) r5 t1 w HZ

theorem closes_walk (s : ByteArray) (a : Int) (hm : s.size ≤ maxLen) (w : World) :
    Calls Try.prog 4 #[.string s, .int .i64 a] w fun e w' => e = .returned (.bool true) ∧ Below w.heap.size w w' := by
  by_cases h : s.size ≤ 1048576
  · by_cases ha : 0 ≤ a ∧ a < (s.size : Int)
    · obtain ⟨i, rfl⟩ := Int.eq_ofNat_of_zero_le ha.1
      have hi : i < s.size := by omega
      cases hq : isQ (byteAt s i) with
      | false => exact closes_walk_no s i h hi hq w
      | true =>
        refine closes_walk_yes s i h hi ?_ w
        unfold isQ at hq
        simpa using hq
    · exact closes_walk_out s a hm w (Or.inr ⟨h, by omega⟩)
  · exact closes_walk_out s a hm w (Or.inl (by omega))
end Go.Proofs.Qxb6603928a
