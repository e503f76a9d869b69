namespace Go.Proofs.Qxb6603928a

/-! THE PLAIN SCANNERS: no Go in sight. 'l': the bytes that are left; 'j': the place where they begin. -/

/-- The end of a one-line string. -/
def one (esc : Bool) (q : Int) : List Int → Nat → Nat
  | [], j => j
  | [_], j => j + 1
  | c :: d :: r, j => if esc = true ∧ c = 92 then one esc q r (j + 2) else if c = q then j + 1 else one esc q (d :: r) (j + 1)

/-- The end of a multi-line string; 'run': the quotes seen in a row. -/
def many (esc : Bool) (q : Int) : List Int → Nat → Nat → Nat
  | [], j, _ => j
  | [c], j, run => if c = q then j + 1 else if 3 ≤ run then j else j + 1
  | c :: d :: r, j, run => if c = q then many esc q (d :: r) (j + 1) (run + 1) else if 3 ≤ run then j
      else if esc = true ∧ c = 92 then many esc q r (j + 2) 0 else many esc q (d :: r) (j + 1) 0

theorem one_skip {esc : Bool} {q c : Int} {r : List Int} {j : Nat} (he : esc = true) (hc : c = 92) : one esc q (c :: r) j = one esc q (r.drop 1) (j + 1 + min 1 r.length) := by
  cases r with
  | nil => simp [one]
  | cons d r => simp [one, he, hc]

theorem one_quote {esc : Bool} {q c : Int} {r : List Int} {j : Nat} (he : ¬ (esc = true ∧ c = 92)) (hc : c = q) : one esc q (c :: r) j = j + 1 := by
  cases r with
  | nil => simp [one]
  | cons d r => rw [one, if_neg he, if_pos hc]

theorem one_next {esc : Bool} {q c : Int} {r : List Int} {j : Nat} (he : ¬ (esc = true ∧ c = 92)) (hc : c ≠ q) : one esc q (c :: r) j = one esc q r (j + 1) := by
  cases r with
  | nil => simp [one]
  | cons d r => rw [one, if_neg he, if_neg hc]

theorem many_quote {esc : Bool} {q c : Int} {r : List Int} {j run : Nat} (hc : c = q) : many esc q (c :: r) j run = many esc q r (j + 1) (run + 1) := by
  cases r with
  | nil => simp [many, hc]
  | cons d r => rw [many, if_pos hc]

theorem many_stop {esc : Bool} {q c : Int} {r : List Int} {j run : Nat} (hc : c ≠ q) (h3 : 3 ≤ run) : many esc q (c :: r) j run = j := by
  cases r with
  | nil => rw [many, if_neg hc, if_pos h3]
  | cons d r => rw [many, if_neg hc, if_pos h3]

theorem many_skip {esc : Bool} {q c : Int} {r : List Int} {j run : Nat} (hc : c ≠ q) (h3 : ¬ 3 ≤ run) (he : esc = true) (h9 : c = 92) : many esc q (c :: r) j run = many esc q (r.drop 1) (j + 1 + min 1 r.length) 0 := by
  cases r with
  | nil => rw [many, if_neg hc, if_neg h3]; simp [many]
  | cons d r => rw [many, if_neg hc, if_neg h3, if_pos ⟨he, h9⟩]; simp

theorem many_next {esc : Bool} {q c : Int} {r : List Int} {j run : Nat} (hc : c ≠ q) (h3 : ¬ 3 ≤ run) (he : ¬ (esc = true ∧ c = 92)) : many esc q (c :: r) j run = many esc q r (j + 1) 0 := by
  cases r with
  | nil => simp [many, hc, h3]
  | cons d r => rw [many, if_neg hc, if_neg h3, if_neg he]

/-- A run that is short and over counts for nothing. -/
theorem many_run {esc : Bool} {q : Int} {l : List Int} {j run : Nat} (hl : ∀ c r, l = c :: r → c ≠ q) (h3 : ¬ 3 ≤ run) : many esc q l j run = many esc q l j 0 := by
  cases l with
  | nil => simp [many]
  | cons c r =>
    have hc := hl c r rfl
    by_cases he : esc = true ∧ c = 92
    · rw [many_skip hc h3 he.1 he.2, many_skip hc (by omega) he.1 he.2]
    · rw [many_next hc h3 he, many_next hc (by omega) he]

/-! By places in a text of n bytes, byte k being 'b k'. -/
section
variable (b : Nat → Int) (n : Nat) (esc : Bool) (q : Int)

def rest (j : Nat) : List Int := (List.range' j (n - j)).map b

theorem rest_cons {j : Nat} (h : j < n) : rest b n j = b j :: rest b n (j + 1) := by
  unfold rest
  rw [show n - j = (n - (j + 1)) + 1 from by omega, List.range'_succ]
  rfl
theorem rest_nil {j : Nat} (h : n ≤ j) : rest b n j = [] := by
  unfold rest
  rw [show n - j = 0 from by omega]; rfl
theorem rest_len (j : Nat) : (rest b n j).length = n - j := by simp [rest]
theorem rest_drop1 (j : Nat) : (rest b n j).drop 1 = rest b n (j + 1) := by
  by_cases h : j < n
  · rw [rest_cons b n h]; rfl
  · rw [rest_nil b n (by omega), rest_nil b n (by omega)]; rfl

/-- The end of a one-line string whose bytes begin at j. -/
def end1 (j : Nat) : Nat := one esc q (rest b n j) j
/-- The end of a multi-line string whose bytes begin at j, 'run' quotes having been seen in a row. -/
def end3 (j run : Nat) : Nat := many esc q (rest b n j) j run

theorem end1_end {j : Nat} (h : n ≤ j) : end1 b n esc q j = j := by unfold end1; rw [rest_nil b n h]; rfl
theorem end1_skip {j : Nat} (h : j < n) (he : esc = true) (hc : b j = 92) : end1 b n esc q j = end1 b n esc q (min (j + 2) n) := by
  unfold end1
  rw [rest_cons b n h, one_skip he hc, rest_drop1, rest_len]
  by_cases h2 : j + 1 < n
  · have e : min (j + 2) n = j + 2 := by omega
    rw [e, show j + 1 + min 1 (n - (j + 1)) = j + 2 from by omega]
  · rw [show j + 1 + min 1 (n - (j + 1)) = min (j + 2) n from by omega, rest_nil b n (show n ≤ j + 1 + 1 from by omega), rest_nil b n (show n ≤ min (j + 2) n from by omega)]
theorem end1_quote {j : Nat} (h : j < n) (he : ¬ (esc = true ∧ b j = 92)) (hc : b j = q) : end1 b n esc q j = j + 1 := by
  unfold end1; rw [rest_cons b n h, one_quote he hc]
theorem end1_next {j : Nat} (h : j < n) (he : ¬ (esc = true ∧ b j = 92)) (hc : b j ≠ q) : end1 b n esc q j = end1 b n esc q (j + 1) := by
  unfold end1; rw [rest_cons b n h, one_next he hc]

theorem end3_end {j run : Nat} (h : n ≤ j) : end3 b n esc q j run = j := by unfold end3; rw [rest_nil b n h]; rfl
theorem end3_quote {j run : Nat} (h : j < n) (hc : b j = q) : end3 b n esc q j run = end3 b n esc q (j + 1) (run + 1) := by
  unfold end3; rw [rest_cons b n h, many_quote hc]
theorem end3_stop {j run : Nat} (h : j < n) (hc : b j ≠ q) (h3 : 3 ≤ run) : end3 b n esc q j run = j := by
  unfold end3; rw [rest_cons b n h, many_stop hc h3]
theorem end3_skip {j run : Nat} (h : j < n) (hc : b j ≠ q) (h3 : ¬ 3 ≤ run) (he : esc = true) (h9 : b j = 92) : end3 b n esc q j run = end3 b n esc q (min (j + 2) n) 0 := by
  unfold end3
  rw [rest_cons b n h, many_skip hc h3 he h9, rest_drop1, rest_len]
  by_cases h2 : j + 1 < n
  · have e : min (j + 2) n = j + 2 := by omega
    rw [e, show j + 1 + min 1 (n - (j + 1)) = j + 2 from by omega]
  · rw [show j + 1 + min 1 (n - (j + 1)) = min (j + 2) n from by omega, rest_nil b n (show n ≤ j + 1 + 1 from by omega), rest_nil b n (show n ≤ min (j + 2) n from by omega)]
theorem end3_next {j run : Nat} (h : j < n) (hc : b j ≠ q) (h3 : ¬ 3 ≤ run) (he : ¬ (esc = true ∧ b j = 92)) : end3 b n esc q j run = end3 b n esc q (j + 1) 0 := by
  unfold end3; rw [rest_cons b n h, many_next hc h3 he]
theorem end3_run {j run : Nat} (h : j < n → b j ≠ q) (h3 : ¬ 3 ≤ run) : end3 b n esc q j run = end3 b n esc q j 0 := by
  unfold end3
  refine many_run (fun c r hl => ?_) h3
  by_cases hj : j < n
  · rw [rest_cons b n hj] at hl
    have : b j = c := by simpa using (List.cons.inj hl).1
    rw [← this]; exact h hj
  · rw [rest_nil b n (by omega)] at hl; cases hl
/-- A run of quotes from j up to r. -/
theorem end3_quotes {j : Nat} : ∀ (m run : Nat), j + m ≤ n → (∀ k, k < m → b (j + k) = q) → end3 b n esc q j run = end3 b n esc q (j + m) (run + m)
  | 0, _, _, _ => rfl
  | m + 1, run, h, hq => by
    rw [end3_quotes m run (by omega) (fun k hk => hq k (by omega)), end3_quote b n esc q (by omega) (hq m (by omega))]
    rfl

/-- What follows a run of m quotes that begins at k and is over. -/
theorem end3_after {k m R : Nat} (hk : k < n) (hle : k + m ≤ n) (hall : ∀ t, t < m → b (k + t) = q) (hx : k + m < n → b (k + m) ≠ q) (hne : ¬ (esc = true ∧ b k = 92)) (hR : end3 b n esc q k 0 = R) :
    (3 ≤ m → R = k + m) ∧ (0 < m → m < 3 → end3 b n esc q (k + m) 0 = R) ∧ (m = 0 → end3 b n esc q (k + 1) 0 = R) := by
  have h1 := end3_quotes b n esc q m 0 hle hall
  rw [Nat.zero_add] at h1
  refine ⟨fun h3 => ?_, fun h0 h3 => ?_, fun h0 => ?_⟩
  · rw [← hR, h1]
    by_cases hl : k + m < n
    · exact end3_stop b n esc q hl (hx hl) h3
    · exact end3_end b n esc q (by omega)
  · rw [← hR, h1]
    exact (end3_run b n esc q hx (by omega)).symm
  · subst h0
    rw [← hR]
    exact (end3_next b n esc q hk (hx hk) (by omega) hne).symm

/-- Where a one-line string ends. -/
theorem end1_spec : ∀ (m j : Nat), n - j ≤ m → j ≤ n → end1 b n esc q j = n ∨ (j < end1 b n esc q j ∧ end1 b n esc q j ≤ n ∧ b (end1 b n esc q j - 1) = q)
  | 0, j, hm, hj => by left; rw [end1_end b n esc q (by omega)]; omega
  | m + 1, j, hm, hj => by
    by_cases h : j < n
    · by_cases he : esc = true ∧ b j = 92
      · rw [end1_skip b n esc q h he.1 he.2]
        rcases end1_spec m (min (j + 2) n) (by omega) (by omega) with h1 | ⟨h1, h2, h3⟩
        · exact Or.inl h1
        · exact Or.inr ⟨by omega, h2, h3⟩
      · by_cases hc : b j = q
        · rw [end1_quote b n esc q h he hc]
          exact Or.inr ⟨by omega, by omega, by simpa using hc⟩
        · rw [end1_next b n esc q h he hc]
          rcases end1_spec m (j + 1) (by omega) (by omega) with h1 | ⟨h1, h2, h3⟩
          · exact Or.inl h1
          · exact Or.inr ⟨by omega, h2, h3⟩
    · left; rw [end1_end b n esc q (by omega)]; omega

/-- Where a multi-line string ends: 'a': where its bytes begin. -/
theorem end3_spec (a : Nat) : ∀ (m j run : Nat), n - j ≤ m → j ≤ n → a + run ≤ j → (∀ k, k < run → b (j - 1 - k) = q) →
    end3 b n esc q j run = n ∨ (a + 3 ≤ end3 b n esc q j run ∧ end3 b n esc q j run < n ∧ b (end3 b n esc q j run - 1) = q ∧ b (end3 b n esc q j run - 2) = q ∧ b (end3 b n esc q j run - 3) = q ∧ b (end3 b n esc q j run) ≠ q)
  | 0, j, run, hm, hj, _, _ => by left; rw [end3_end b n esc q (by omega)]; omega
  | m + 1, j, run, hm, hj, ha, hr => by
    by_cases h : j < n
    · by_cases hc : b j = q
      · rw [end3_quote b n esc q h hc]
        refine end3_spec a m (j + 1) (run + 1) (by omega) (by omega) (by omega) (fun k hk => ?_)
        by_cases h0 : k = 0
        · subst h0; simpa using hc
        · have := hr (k - 1) (by omega)
          rwa [show j - 1 - (k - 1) = j + 1 - 1 - k from by omega] at this
      · by_cases h3 : 3 ≤ run
        · rw [end3_stop b n esc q h hc h3]
          refine Or.inr ⟨by omega, h, ?_, ?_, ?_, hc⟩
          · simpa using hr 0 (by omega)
          · have := hr 1 (by omega); rwa [show j - 1 - 1 = j - 2 from by omega] at this
          · have := hr 2 (by omega); rwa [show j - 1 - 2 = j - 3 from by omega] at this
        · by_cases he : esc = true ∧ b j = 92
          · rw [end3_skip b n esc q h hc h3 he.1 he.2]
            exact end3_spec a m (min (j + 2) n) 0 (by omega) (by omega) (by omega) (fun k hk => absurd hk (Nat.not_lt_zero _))
          · rw [end3_next b n esc q h hc h3 he]
            exact end3_spec a m (j + 1) 0 (by omega) (by omega) (by omega) (fun k hk => absurd hk (Nat.not_lt_zero _))
    · left; rw [end3_end b n esc q (by omega)]; omega
end

/-- Whether three quotes open the string at i. -/
def multi (b : Nat → Int) (n i : Nat) : Bool := decide (i + 2 < n) && decide (b (i + 1) = b i) && decide (b (i + 2) = b i)
/-- THE END of the string that opens at i. -/
def strEnd (b : Nat → Int) (n i : Nat) : Nat :=
  if multi b n i = true then end3 b n (b i == 34) (b i) (i + 3) 0 else end1 b n (b i == 34) (b i) (i + 1)
end Go.Proofs.Qxb6603928a
