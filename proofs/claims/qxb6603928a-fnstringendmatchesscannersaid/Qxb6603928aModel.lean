import Derived.Test.Qxb6603928aCloses
namespace Go.Proofs.Qxb6603928a
open Go.ChangeShapes Go.WideShapes Go.ChangeAt Go.RowKit
set_option linter.unusedSimpArgs false
set_option linter.unusedVariables false

set_option maxHeartbeats 1000000 in
theorem model_a_esc (s : ByteArray) (i R : Nat) (h : s.size ≤ 1048576) (hi : i < s.size) (hq92 : byteAt s i ≠ 92) (hesc : (byteAt s i == 34) = true)
    (g : ¬ i + 2 < s.size) (HR : Hid (end1 (byteAt s) s.size true (byteAt s i) (i + 1) = R)) (w : World) :
    Calls Try.prog 9 #[.string s, .int .i64 (i : Int)] w fun e w' => e = .returned (.int .i64 (R : Int)) ∧ w' = w := by
  have hb := byteAt_eq s i hi
  have h' : (s.size : Int) ≤ 1048576 := by omega
  have hi' : (i : Int) < (s.size : Int) := by omega
  have g0 : decide ((i : Int) + 2 < (s.size : Int)) = false := by simp; omega
  have HQ92 : Hid (byteAt s i ≠ 92) := hq92
  clear hq92
  generalize byteAt s i = q at *
  go_enter Try.func9, Try.ntmps9
  go_wp2
  clear hb g0
  go_loop [9, 10, 11] (fun ev rv kv => ∃ (k : Nat) (ed : Bool), k ≤ s.size ∧ kv = .int .i64 k ∧ ev = .bool ed ∧ rv = .int .i64 0 ∧ (if ed = true then end1 (byteAt s) s.size true q (min (k + 1) s.size) = R else end1 (byteAt s) s.size true q k = R)) (fun _ _ kv => s.size - (intOf kv).toNat)
  case atStart => exact ⟨i + 1, false, by omega, by go_num, rfl, rfl, HR.out⟩
  case round =>
    obtain ⟨k, ed, hk, rfl, rfl, rfl, hrel⟩ := hrel
    by_cases hlt : k < s.size
    · have hlt' : (k : Int) < (s.size : Int) := by omega
      have hb := byteAt_eq s k hlt
      have c0 := byteAt_lo s k
      have c1 := byteAt_hi s k
      obtain ⟨c, hbc⟩ : ∃ c, byteAt s k = c := ⟨_, rfl⟩
      rw [hbc] at hb c0 c1
      cases ed with
      | true =>
        have HE : Hid (if false = true then end1 (byteAt s) s.size true q (min (k + 1 + 1) s.size) = R else end1 (byteAt s) s.size true q (k + 1) = R) := by
          show end1 (byteAt s) s.size true q (k + 1) = R
          have h5 : end1 (byteAt s) s.size true q (min (k + 1) s.size) = R := hrel
          rwa [show min (k + 1) s.size = k + 1 from by omega] at h5
        clear hrel hbc
        go_wp2
        go_round
        case rel => exact ⟨k + 1, false, by omega, by go_num, rfl, rfl, HE.out⟩
        case measure => simp [intOf]; omega
      | false =>
        have HK : Hid (end1 (byteAt s) s.size true q k = R) := hrel
        clear hrel
        by_cases hcq : c = q
        · have htq : (c == q) = true := by simpa using hcq
          have HE : Hid (R = k + 1) := by
            show R = k + 1
            rw [← HK.out, end1_quote _ _ _ _ hlt (fun hh => HQ92.out (hcq.symm.trans (hbc.symm.trans hh.2))) (hbc.trans hcq)]
          clear hcq hbc
          go_wp2
          go_ret
          exact ⟨ret_int (by show ((k : Int) + 1) = _; have := HE.out; omega), rfl⟩
        · have htq : (c == q) = false := by simpa using hcq
          by_cases h9 : c = 92
          · have ht9 : (c == 92) = true := by simpa using h9
            have HE : Hid (if true = true then end1 (byteAt s) s.size true q (min (k + 1 + 1) s.size) = R else end1 (byteAt s) s.size true q (k + 1) = R) := by
              show end1 (byteAt s) s.size true q (min (k + 1 + 1) s.size) = R
              rw [← end1_skip _ _ _ _ hlt rfl (hbc.trans h9)]; exact HK.out
            clear h9 hbc hcq
            go_wp2
            go_round
            case rel => exact ⟨k + 1, true, by omega, by go_num, rfl, rfl, HE.out⟩
            case measure => simp [intOf]; omega
          · have ht9 : (c == 92) = false := by simpa using h9
            have HNE : Hid (¬ (true = true ∧ byteAt s k = 92)) := fun hh => h9 (hbc.symm.trans hh.2)
            clear h9
            have HE : Hid (if false = true then end1 (byteAt s) s.size true q (min (k + 1 + 1) s.size) = R else end1 (byteAt s) s.size true q (k + 1) = R) := by
              show end1 (byteAt s) s.size true q (k + 1) = R
              rw [← end1_next _ _ _ _ hlt HNE.out (fun hh => hcq (hbc.symm.trans hh))]; exact HK.out
            clear hcq hbc
            go_wp2
            go_round
            case rel => exact ⟨k + 1, false, by omega, by go_num, rfl, rfl, HE.out⟩
            case measure => simp [intOf]; omega
    · have HE : Hid (R = s.size) := by
        show R = s.size
        have hk2 : k = s.size := by omega
        cases ed with
        | true => have h5 : end1 (byteAt s) s.size true q (min (k + 1) s.size) = R := hrel; rw [← h5, show min (k + 1) s.size = s.size from by omega, end1_end _ _ _ _ (Nat.le_refl _)]
        | false => have h5 : end1 (byteAt s) s.size true q k = R := hrel; rw [← h5, hk2, end1_end _ _ _ _ (Nat.le_refl _)]
      clear hrel
      go_wp2
      go_ret
      exact ⟨ret_int (by rw [HE.out]), rfl⟩

set_option maxHeartbeats 1000000 in
theorem model_a_lit (s : ByteArray) (i R : Nat) (h : s.size ≤ 1048576) (hi : i < s.size) (hq92 : byteAt s i ≠ 92) (hesc : (byteAt s i == 34) = false)
    (g : ¬ i + 2 < s.size) (HR : Hid (end1 (byteAt s) s.size false (byteAt s i) (i + 1) = R)) (w : World) :
    Calls Try.prog 9 #[.string s, .int .i64 (i : Int)] w fun e w' => e = .returned (.int .i64 (R : Int)) ∧ w' = w := by
  have hb := byteAt_eq s i hi
  have h' : (s.size : Int) ≤ 1048576 := by omega
  have hi' : (i : Int) < (s.size : Int) := by omega
  have g0 : decide ((i : Int) + 2 < (s.size : Int)) = false := by simp; omega
  have HQ92 : Hid (byteAt s i ≠ 92) := hq92
  clear hq92
  generalize byteAt s i = q at *
  go_enter Try.func9, Try.ntmps9
  go_wp2
  clear hb g0
  go_loop [9, 10, 11] (fun ev rv kv => ∃ (k : Nat) (ed : Bool), k ≤ s.size ∧ kv = .int .i64 k ∧ ev = .bool ed ∧ rv = .int .i64 0 ∧ (if ed = true then end1 (byteAt s) s.size false q (min (k + 1) s.size) = R else end1 (byteAt s) s.size false q k = R)) (fun _ _ kv => s.size - (intOf kv).toNat)
  case atStart => exact ⟨i + 1, false, by omega, by go_num, rfl, rfl, HR.out⟩
  case round =>
    obtain ⟨k, ed, hk, rfl, rfl, rfl, hrel⟩ := hrel
    by_cases hlt : k < s.size
    · have hlt' : (k : Int) < (s.size : Int) := by omega
      have hb := byteAt_eq s k hlt
      have c0 := byteAt_lo s k
      have c1 := byteAt_hi s k
      obtain ⟨c, hbc⟩ : ∃ c, byteAt s k = c := ⟨_, rfl⟩
      rw [hbc] at hb c0 c1
      cases ed with
      | true =>
        have HE : Hid (if false = true then end1 (byteAt s) s.size false q (min (k + 1 + 1) s.size) = R else end1 (byteAt s) s.size false q (k + 1) = R) := by
          show end1 (byteAt s) s.size false q (k + 1) = R
          have h5 : end1 (byteAt s) s.size false q (min (k + 1) s.size) = R := hrel
          rwa [show min (k + 1) s.size = k + 1 from by omega] at h5
        clear hrel hbc
        go_wp2
        go_round
        case rel => exact ⟨k + 1, false, by omega, by go_num, rfl, rfl, HE.out⟩
        case measure => simp [intOf]; omega
      | false =>
        have HK : Hid (end1 (byteAt s) s.size false q k = R) := hrel
        clear hrel
        by_cases hcq : c = q
        · have htq : (c == q) = true := by simpa using hcq
          have HE : Hid (R = k + 1) := by
            show R = k + 1
            rw [← HK.out, end1_quote _ _ _ _ hlt (fun hh => HQ92.out (hcq.symm.trans (hbc.symm.trans hh.2))) (hbc.trans hcq)]
          clear hcq hbc
          go_wp2
          go_ret
          exact ⟨ret_int (by show ((k : Int) + 1) = _; have := HE.out; omega), rfl⟩
        · have htq : (c == q) = false := by simpa using hcq
          have HNE : Hid (¬ (false = true ∧ byteAt s k = 92)) := fun hh => absurd hh.1 (by decide)
          have HE : Hid (if false = true then end1 (byteAt s) s.size false q (min (k + 1 + 1) s.size) = R else end1 (byteAt s) s.size false q (k + 1) = R) := by
            show end1 (byteAt s) s.size false q (k + 1) = R
            rw [← end1_next _ _ _ _ hlt HNE.out (fun hh => hcq (hbc.symm.trans hh))]; exact HK.out
          clear hcq hbc
          go_wp2
          go_round
          case rel => exact ⟨k + 1, false, by omega, by go_num, rfl, rfl, HE.out⟩
          case measure => simp [intOf]; omega
    · have HE : Hid (R = s.size) := by
        show R = s.size
        have hk2 : k = s.size := by omega
        cases ed with
        | true => have h5 : end1 (byteAt s) s.size false q (min (k + 1) s.size) = R := hrel; rw [← h5, show min (k + 1) s.size = s.size from by omega, end1_end _ _ _ _ (Nat.le_refl _)]
        | false => have h5 : end1 (byteAt s) s.size false q k = R := hrel; rw [← h5, hk2, end1_end _ _ _ _ (Nat.le_refl _)]
      clear hrel
      go_wp2
      go_ret
      exact ⟨ret_int (by rw [HE.out]), rfl⟩

set_option maxHeartbeats 1000000 in
theorem model_b_esc (s : ByteArray) (i R : Nat) (h : s.size ≤ 1048576) (hi : i < s.size) (hq92 : byteAt s i ≠ 92) (hesc : (byteAt s i == 34) = true)
    (g : i + 2 < s.size) (e1 : byteAt s (i + 1) ≠ byteAt s i) (HR : Hid (end1 (byteAt s) s.size true (byteAt s i) (i + 1) = R)) (w : World) :
    Calls Try.prog 9 #[.string s, .int .i64 (i : Int)] w fun e w' => e = .returned (.int .i64 (R : Int)) ∧ w' = w := by
  have hb := byteAt_eq s i hi
  have h' : (s.size : Int) ≤ 1048576 := by omega
  have hi' : (i : Int) < (s.size : Int) := by omega
  have g0 : (i : Int) + 2 < (s.size : Int) := by omega
  have hb1 := byteAt_eq s (i + 1) (Nat.lt_of_succ_lt g)
  obtain ⟨c1, hc1⟩ : ∃ c1, byteAt s (i + 1) = c1 := ⟨_, rfl⟩
  rw [hc1] at hb1 e1
  have q1 : (c1 == byteAt s i) = false := by simpa using e1
  clear e1 hc1
  have HQ92 : Hid (byteAt s i ≠ 92) := hq92
  clear hq92
  generalize byteAt s i = q at *
  go_enter Try.func9, Try.ntmps9
  go_wp2
  clear hb hb1 q1
  go_loop [9, 10, 11] (fun ev rv kv => ∃ (k : Nat) (ed : Bool), k ≤ s.size ∧ kv = .int .i64 k ∧ ev = .bool ed ∧ rv = .int .i64 0 ∧ (if ed = true then end1 (byteAt s) s.size true q (min (k + 1) s.size) = R else end1 (byteAt s) s.size true q k = R)) (fun _ _ kv => s.size - (intOf kv).toNat)
  case atStart => exact ⟨i + 1, false, by omega, by go_num, rfl, rfl, HR.out⟩
  case round =>
    obtain ⟨k, ed, hk, rfl, rfl, rfl, hrel⟩ := hrel
    by_cases hlt : k < s.size
    · have hlt' : (k : Int) < (s.size : Int) := by omega
      have hb := byteAt_eq s k hlt
      have c0 := byteAt_lo s k
      have c1 := byteAt_hi s k
      obtain ⟨c, hbc⟩ : ∃ c, byteAt s k = c := ⟨_, rfl⟩
      rw [hbc] at hb c0 c1
      cases ed with
      | true =>
        have HE : Hid (if false = true then end1 (byteAt s) s.size true q (min (k + 1 + 1) s.size) = R else end1 (byteAt s) s.size true q (k + 1) = R) := by
          show end1 (byteAt s) s.size true q (k + 1) = R
          have h5 : end1 (byteAt s) s.size true q (min (k + 1) s.size) = R := hrel
          rwa [show min (k + 1) s.size = k + 1 from by omega] at h5
        clear hrel hbc
        go_wp2
        go_round
        case rel => exact ⟨k + 1, false, by omega, by go_num, rfl, rfl, HE.out⟩
        case measure => simp [intOf]; omega
      | false =>
        have HK : Hid (end1 (byteAt s) s.size true q k = R) := hrel
        clear hrel
        by_cases hcq : c = q
        · have htq : (c == q) = true := by simpa using hcq
          have HE : Hid (R = k + 1) := by
            show R = k + 1
            rw [← HK.out, end1_quote _ _ _ _ hlt (fun hh => HQ92.out (hcq.symm.trans (hbc.symm.trans hh.2))) (hbc.trans hcq)]
          clear hcq hbc
          go_wp2
          go_ret
          exact ⟨ret_int (by show ((k : Int) + 1) = _; have := HE.out; omega), rfl⟩
        · have htq : (c == q) = false := by simpa using hcq
          by_cases h9 : c = 92
          · have ht9 : (c == 92) = true := by simpa using h9
            have HE : Hid (if true = true then end1 (byteAt s) s.size true q (min (k + 1 + 1) s.size) = R else end1 (byteAt s) s.size true q (k + 1) = R) := by
              show end1 (byteAt s) s.size true q (min (k + 1 + 1) s.size) = R
              rw [← end1_skip _ _ _ _ hlt rfl (hbc.trans h9)]; exact HK.out
            clear h9 hbc hcq
            go_wp2
            go_round
            case rel => exact ⟨k + 1, true, by omega, by go_num, rfl, rfl, HE.out⟩
            case measure => simp [intOf]; omega
          · have ht9 : (c == 92) = false := by simpa using h9
            have HNE : Hid (¬ (true = true ∧ byteAt s k = 92)) := fun hh => h9 (hbc.symm.trans hh.2)
            clear h9
            have HE : Hid (if false = true then end1 (byteAt s) s.size true q (min (k + 1 + 1) s.size) = R else end1 (byteAt s) s.size true q (k + 1) = R) := by
              show end1 (byteAt s) s.size true q (k + 1) = R
              rw [← end1_next _ _ _ _ hlt HNE.out (fun hh => hcq (hbc.symm.trans hh))]; exact HK.out
            clear hcq hbc
            go_wp2
            go_round
            case rel => exact ⟨k + 1, false, by omega, by go_num, rfl, rfl, HE.out⟩
            case measure => simp [intOf]; omega
    · have HE : Hid (R = s.size) := by
        show R = s.size
        have hk2 : k = s.size := by omega
        cases ed with
        | true => have h5 : end1 (byteAt s) s.size true q (min (k + 1) s.size) = R := hrel; rw [← h5, show min (k + 1) s.size = s.size from by omega, end1_end _ _ _ _ (Nat.le_refl _)]
        | false => have h5 : end1 (byteAt s) s.size true q k = R := hrel; rw [← h5, hk2, end1_end _ _ _ _ (Nat.le_refl _)]
      clear hrel
      go_wp2
      go_ret
      exact ⟨ret_int (by rw [HE.out]), rfl⟩

set_option maxHeartbeats 1000000 in
theorem model_b_lit (s : ByteArray) (i R : Nat) (h : s.size ≤ 1048576) (hi : i < s.size) (hq92 : byteAt s i ≠ 92) (hesc : (byteAt s i == 34) = false)
    (g : i + 2 < s.size) (e1 : byteAt s (i + 1) ≠ byteAt s i) (HR : Hid (end1 (byteAt s) s.size false (byteAt s i) (i + 1) = R)) (w : World) :
    Calls Try.prog 9 #[.string s, .int .i64 (i : Int)] w fun e w' => e = .returned (.int .i64 (R : Int)) ∧ w' = w := by
  have hb := byteAt_eq s i hi
  have h' : (s.size : Int) ≤ 1048576 := by omega
  have hi' : (i : Int) < (s.size : Int) := by omega
  have g0 : (i : Int) + 2 < (s.size : Int) := by omega
  have hb1 := byteAt_eq s (i + 1) (Nat.lt_of_succ_lt g)
  obtain ⟨c1, hc1⟩ : ∃ c1, byteAt s (i + 1) = c1 := ⟨_, rfl⟩
  rw [hc1] at hb1 e1
  have q1 : (c1 == byteAt s i) = false := by simpa using e1
  clear e1 hc1
  have HQ92 : Hid (byteAt s i ≠ 92) := hq92
  clear hq92
  generalize byteAt s i = q at *
  go_enter Try.func9, Try.ntmps9
  go_wp2
  clear hb hb1 q1
  go_loop [9, 10, 11] (fun ev rv kv => ∃ (k : Nat) (ed : Bool), k ≤ s.size ∧ kv = .int .i64 k ∧ ev = .bool ed ∧ rv = .int .i64 0 ∧ (if ed = true then end1 (byteAt s) s.size false q (min (k + 1) s.size) = R else end1 (byteAt s) s.size false q k = R)) (fun _ _ kv => s.size - (intOf kv).toNat)
  case atStart => exact ⟨i + 1, false, by omega, by go_num, rfl, rfl, HR.out⟩
  case round =>
    obtain ⟨k, ed, hk, rfl, rfl, rfl, hrel⟩ := hrel
    by_cases hlt : k < s.size
    · have hlt' : (k : Int) < (s.size : Int) := by omega
      have hb := byteAt_eq s k hlt
      have c0 := byteAt_lo s k
      have c1 := byteAt_hi s k
      obtain ⟨c, hbc⟩ : ∃ c, byteAt s k = c := ⟨_, rfl⟩
      rw [hbc] at hb c0 c1
      cases ed with
      | true =>
        have HE : Hid (if false = true then end1 (byteAt s) s.size false q (min (k + 1 + 1) s.size) = R else end1 (byteAt s) s.size false q (k + 1) = R) := by
          show end1 (byteAt s) s.size false q (k + 1) = R
          have h5 : end1 (byteAt s) s.size false q (min (k + 1) s.size) = R := hrel
          rwa [show min (k + 1) s.size = k + 1 from by omega] at h5
        clear hrel hbc
        go_wp2
        go_round
        case rel => exact ⟨k + 1, false, by omega, by go_num, rfl, rfl, HE.out⟩
        case measure => simp [intOf]; omega
      | false =>
        have HK : Hid (end1 (byteAt s) s.size false q k = R) := hrel
        clear hrel
        by_cases hcq : c = q
        · have htq : (c == q) = true := by simpa using hcq
          have HE : Hid (R = k + 1) := by
            show R = k + 1
            rw [← HK.out, end1_quote _ _ _ _ hlt (fun hh => HQ92.out (hcq.symm.trans (hbc.symm.trans hh.2))) (hbc.trans hcq)]
          clear hcq hbc
          go_wp2
          go_ret
          exact ⟨ret_int (by show ((k : Int) + 1) = _; have := HE.out; omega), rfl⟩
        · have htq : (c == q) = false := by simpa using hcq
          have HNE : Hid (¬ (false = true ∧ byteAt s k = 92)) := fun hh => absurd hh.1 (by decide)
          have HE : Hid (if false = true then end1 (byteAt s) s.size false q (min (k + 1 + 1) s.size) = R else end1 (byteAt s) s.size false q (k + 1) = R) := by
            show end1 (byteAt s) s.size false q (k + 1) = R
            rw [← end1_next _ _ _ _ hlt HNE.out (fun hh => hcq (hbc.symm.trans hh))]; exact HK.out
          clear hcq hbc
          go_wp2
          go_round
          case rel => exact ⟨k + 1, false, by omega, by go_num, rfl, rfl, HE.out⟩
          case measure => simp [intOf]; omega
    · have HE : Hid (R = s.size) := by
        show R = s.size
        have hk2 : k = s.size := by omega
        cases ed with
        | true => have h5 : end1 (byteAt s) s.size false q (min (k + 1) s.size) = R := hrel; rw [← h5, show min (k + 1) s.size = s.size from by omega, end1_end _ _ _ _ (Nat.le_refl _)]
        | false => have h5 : end1 (byteAt s) s.size false q k = R := hrel; rw [← h5, hk2, end1_end _ _ _ _ (Nat.le_refl _)]
      clear hrel
      go_wp2
      go_ret
      exact ⟨ret_int (by rw [HE.out]), rfl⟩

set_option maxHeartbeats 1000000 in
theorem model_c_esc (s : ByteArray) (i R : Nat) (h : s.size ≤ 1048576) (hi : i < s.size) (hq92 : byteAt s i ≠ 92) (hesc : (byteAt s i == 34) = true)
    (g : i + 2 < s.size) (e1 : byteAt s (i + 1) = byteAt s i) (e2 : byteAt s (i + 2) ≠ byteAt s i) (HR : Hid (end1 (byteAt s) s.size true (byteAt s i) (i + 1) = R)) (w : World) :
    Calls Try.prog 9 #[.string s, .int .i64 (i : Int)] w fun e w' => e = .returned (.int .i64 (R : Int)) ∧ w' = w := by
  have hb := byteAt_eq s i hi
  have h' : (s.size : Int) ≤ 1048576 := by omega
  have hi' : (i : Int) < (s.size : Int) := by omega
  have g0 : (i : Int) + 2 < (s.size : Int) := by omega
  have hb1 := byteAt_eq s (i + 1) (Nat.lt_of_succ_lt g)
  rw [e1] at hb1
  have hb2 := byteAt_eq s (i + 2) g
  obtain ⟨c2, hc2⟩ : ∃ c2, byteAt s (i + 2) = c2 := ⟨_, rfl⟩
  rw [hc2] at hb2 e2
  have q2 : (c2 == byteAt s i) = false := by simpa using e2
  clear e1 e2 hc2
  have HQ92 : Hid (byteAt s i ≠ 92) := hq92
  clear hq92
  generalize byteAt s i = q at *
  go_enter Try.func9, Try.ntmps9
  go_wp2
  clear hb hb1 hb2 q2
  go_loop [9, 10, 11] (fun ev rv kv => ∃ (k : Nat) (ed : Bool), k ≤ s.size ∧ kv = .int .i64 k ∧ ev = .bool ed ∧ rv = .int .i64 0 ∧ (if ed = true then end1 (byteAt s) s.size true q (min (k + 1) s.size) = R else end1 (byteAt s) s.size true q k = R)) (fun _ _ kv => s.size - (intOf kv).toNat)
  case atStart => exact ⟨i + 1, false, by omega, by go_num, rfl, rfl, HR.out⟩
  case round =>
    obtain ⟨k, ed, hk, rfl, rfl, rfl, hrel⟩ := hrel
    by_cases hlt : k < s.size
    · have hlt' : (k : Int) < (s.size : Int) := by omega
      have hb := byteAt_eq s k hlt
      have c0 := byteAt_lo s k
      have c1 := byteAt_hi s k
      obtain ⟨c, hbc⟩ : ∃ c, byteAt s k = c := ⟨_, rfl⟩
      rw [hbc] at hb c0 c1
      cases ed with
      | true =>
        have HE : Hid (if false = true then end1 (byteAt s) s.size true q (min (k + 1 + 1) s.size) = R else end1 (byteAt s) s.size true q (k + 1) = R) := by
          show end1 (byteAt s) s.size true q (k + 1) = R
          have h5 : end1 (byteAt s) s.size true q (min (k + 1) s.size) = R := hrel
          rwa [show min (k + 1) s.size = k + 1 from by omega] at h5
        clear hrel hbc
        go_wp2
        go_round
        case rel => exact ⟨k + 1, false, by omega, by go_num, rfl, rfl, HE.out⟩
        case measure => simp [intOf]; omega
      | false =>
        have HK : Hid (end1 (byteAt s) s.size true q k = R) := hrel
        clear hrel
        by_cases hcq : c = q
        · have htq : (c == q) = true := by simpa using hcq
          have HE : Hid (R = k + 1) := by
            show R = k + 1
            rw [← HK.out, end1_quote _ _ _ _ hlt (fun hh => HQ92.out (hcq.symm.trans (hbc.symm.trans hh.2))) (hbc.trans hcq)]
          clear hcq hbc
          go_wp2
          go_ret
          exact ⟨ret_int (by show ((k : Int) + 1) = _; have := HE.out; omega), rfl⟩
        · have htq : (c == q) = false := by simpa using hcq
          by_cases h9 : c = 92
          · have ht9 : (c == 92) = true := by simpa using h9
            have HE : Hid (if true = true then end1 (byteAt s) s.size true q (min (k + 1 + 1) s.size) = R else end1 (byteAt s) s.size true q (k + 1) = R) := by
              show end1 (byteAt s) s.size true q (min (k + 1 + 1) s.size) = R
              rw [← end1_skip _ _ _ _ hlt rfl (hbc.trans h9)]; exact HK.out
            clear h9 hbc hcq
            go_wp2
            go_round
            case rel => exact ⟨k + 1, true, by omega, by go_num, rfl, rfl, HE.out⟩
            case measure => simp [intOf]; omega
          · have ht9 : (c == 92) = false := by simpa using h9
            have HNE : Hid (¬ (true = true ∧ byteAt s k = 92)) := fun hh => h9 (hbc.symm.trans hh.2)
            clear h9
            have HE : Hid (if false = true then end1 (byteAt s) s.size true q (min (k + 1 + 1) s.size) = R else end1 (byteAt s) s.size true q (k + 1) = R) := by
              show end1 (byteAt s) s.size true q (k + 1) = R
              rw [← end1_next _ _ _ _ hlt HNE.out (fun hh => hcq (hbc.symm.trans hh))]; exact HK.out
            clear hcq hbc
            go_wp2
            go_round
            case rel => exact ⟨k + 1, false, by omega, by go_num, rfl, rfl, HE.out⟩
            case measure => simp [intOf]; omega
    · have HE : Hid (R = s.size) := by
        show R = s.size
        have hk2 : k = s.size := by omega
        cases ed with
        | true => have h5 : end1 (byteAt s) s.size true q (min (k + 1) s.size) = R := hrel; rw [← h5, show min (k + 1) s.size = s.size from by omega, end1_end _ _ _ _ (Nat.le_refl _)]
        | false => have h5 : end1 (byteAt s) s.size true q k = R := hrel; rw [← h5, hk2, end1_end _ _ _ _ (Nat.le_refl _)]
      clear hrel
      go_wp2
      go_ret
      exact ⟨ret_int (by rw [HE.out]), rfl⟩

set_option maxHeartbeats 1000000 in
theorem model_c_lit (s : ByteArray) (i R : Nat) (h : s.size ≤ 1048576) (hi : i < s.size) (hq92 : byteAt s i ≠ 92) (hesc : (byteAt s i == 34) = false)
    (g : i + 2 < s.size) (e1 : byteAt s (i + 1) = byteAt s i) (e2 : byteAt s (i + 2) ≠ byteAt s i) (HR : Hid (end1 (byteAt s) s.size false (byteAt s i) (i + 1) = R)) (w : World) :
    Calls Try.prog 9 #[.string s, .int .i64 (i : Int)] w fun e w' => e = .returned (.int .i64 (R : Int)) ∧ w' = w := by
  have hb := byteAt_eq s i hi
  have h' : (s.size : Int) ≤ 1048576 := by omega
  have hi' : (i : Int) < (s.size : Int) := by omega
  have g0 : (i : Int) + 2 < (s.size : Int) := by omega
  have hb1 := byteAt_eq s (i + 1) (Nat.lt_of_succ_lt g)
  rw [e1] at hb1
  have hb2 := byteAt_eq s (i + 2) g
  obtain ⟨c2, hc2⟩ : ∃ c2, byteAt s (i + 2) = c2 := ⟨_, rfl⟩
  rw [hc2] at hb2 e2
  have q2 : (c2 == byteAt s i) = false := by simpa using e2
  clear e1 e2 hc2
  have HQ92 : Hid (byteAt s i ≠ 92) := hq92
  clear hq92
  generalize byteAt s i = q at *
  go_enter Try.func9, Try.ntmps9
  go_wp2
  clear hb hb1 hb2 q2
  go_loop [9, 10, 11] (fun ev rv kv => ∃ (k : Nat) (ed : Bool), k ≤ s.size ∧ kv = .int .i64 k ∧ ev = .bool ed ∧ rv = .int .i64 0 ∧ (if ed = true then end1 (byteAt s) s.size false q (min (k + 1) s.size) = R else end1 (byteAt s) s.size false q k = R)) (fun _ _ kv => s.size - (intOf kv).toNat)
  case atStart => exact ⟨i + 1, false, by omega, by go_num, rfl, rfl, HR.out⟩
  case round =>
    obtain ⟨k, ed, hk, rfl, rfl, rfl, hrel⟩ := hrel
    by_cases hlt : k < s.size
    · have hlt' : (k : Int) < (s.size : Int) := by omega
      have hb := byteAt_eq s k hlt
      have c0 := byteAt_lo s k
      have c1 := byteAt_hi s k
      obtain ⟨c, hbc⟩ : ∃ c, byteAt s k = c := ⟨_, rfl⟩
      rw [hbc] at hb c0 c1
      cases ed with
      | true =>
        have HE : Hid (if false = true then end1 (byteAt s) s.size false q (min (k + 1 + 1) s.size) = R else end1 (byteAt s) s.size false q (k + 1) = R) := by
          show end1 (byteAt s) s.size false q (k + 1) = R
          have h5 : end1 (byteAt s) s.size false q (min (k + 1) s.size) = R := hrel
          rwa [show min (k + 1) s.size = k + 1 from by omega] at h5
        clear hrel hbc
        go_wp2
        go_round
        case rel => exact ⟨k + 1, false, by omega, by go_num, rfl, rfl, HE.out⟩
        case measure => simp [intOf]; omega
      | false =>
        have HK : Hid (end1 (byteAt s) s.size false q k = R) := hrel
        clear hrel
        by_cases hcq : c = q
        · have htq : (c == q) = true := by simpa using hcq
          have HE : Hid (R = k + 1) := by
            show R = k + 1
            rw [← HK.out, end1_quote _ _ _ _ hlt (fun hh => HQ92.out (hcq.symm.trans (hbc.symm.trans hh.2))) (hbc.trans hcq)]
          clear hcq hbc
          go_wp2
          go_ret
          exact ⟨ret_int (by show ((k : Int) + 1) = _; have := HE.out; omega), rfl⟩
        · have htq : (c == q) = false := by simpa using hcq
          have HNE : Hid (¬ (false = true ∧ byteAt s k = 92)) := fun hh => absurd hh.1 (by decide)
          have HE : Hid (if false = true then end1 (byteAt s) s.size false q (min (k + 1 + 1) s.size) = R else end1 (byteAt s) s.size false q (k + 1) = R) := by
            show end1 (byteAt s) s.size false q (k + 1) = R
            rw [← end1_next _ _ _ _ hlt HNE.out (fun hh => hcq (hbc.symm.trans hh))]; exact HK.out
          clear hcq hbc
          go_wp2
          go_round
          case rel => exact ⟨k + 1, false, by omega, by go_num, rfl, rfl, HE.out⟩
          case measure => simp [intOf]; omega
    · have HE : Hid (R = s.size) := by
        show R = s.size
        have hk2 : k = s.size := by omega
        cases ed with
        | true => have h5 : end1 (byteAt s) s.size false q (min (k + 1) s.size) = R := hrel; rw [← h5, show min (k + 1) s.size = s.size from by omega, end1_end _ _ _ _ (Nat.le_refl _)]
        | false => have h5 : end1 (byteAt s) s.size false q k = R := hrel; rw [← h5, hk2, end1_end _ _ _ _ (Nat.le_refl _)]
      clear hrel
      go_wp2
      go_ret
      exact ⟨ret_int (by rw [HE.out]), rfl⟩

set_option maxHeartbeats 1000000 in
theorem model_d_esc (s : ByteArray) (i R : Nat) (h : s.size ≤ 1048576) (hi : i < s.size) (hq92 : byteAt s i ≠ 92) (hesc : (byteAt s i == 34) = true)
    (g : i + 2 < s.size) (e1 : byteAt s (i + 1) = byteAt s i) (e2 : byteAt s (i + 2) = byteAt s i) (HR : Hid (end3 (byteAt s) s.size true (byteAt s i) (i + 3) 0 = R)) (w : World) :
    Calls Try.prog 9 #[.string s, .int .i64 (i : Int)] w fun e w' => e = .returned (.int .i64 (R : Int)) ∧ w' = w := by
  have hb := byteAt_eq s i hi
  have h' : (s.size : Int) ≤ 1048576 := by omega
  have hi' : (i : Int) < (s.size : Int) := by omega
  have g0 : (i : Int) + 2 < (s.size : Int) := by omega
  have hb1 := byteAt_eq s (i + 1) (Nat.lt_of_succ_lt g)
  rw [e1] at hb1
  have hb2 := byteAt_eq s (i + 2) g
  rw [e2] at hb2
  clear e1 e2
  have HQ92 : Hid (byteAt s i ≠ 92) := hq92
  clear hq92
  generalize byteAt s i = q at *
  go_enter Try.func9, Try.ntmps9
  go_wp2
  clear hb hb1 hb2
  go_loop [9, 10, 11] (fun ev rv kv => ∃ (k : Nat) (ed : Bool) (run : Nat), k ≤ s.size ∧ run ≤ k ∧ kv = .int .i64 k ∧ ev = .bool ed ∧ rv = .int .i64 run ∧ (if ed = true then end3 (byteAt s) s.size true q (min (k + 1) s.size) 0 = R else end3 (byteAt s) s.size true q k run = R)) (fun _ _ kv => s.size - (intOf kv).toNat)
  case atStart => exact ⟨i + 3, false, 0, by omega, by omega, by go_num, rfl, rfl, HR.out⟩
  case round =>
    obtain ⟨k, ed, run, hk, hrun, rfl, rfl, rfl, hrel⟩ := hrel
    by_cases hlt : k < s.size
    · have hlt' : (k : Int) < (s.size : Int) := by omega
      have hb := byteAt_eq s k hlt
      have c0 := byteAt_lo s k
      have c1 := byteAt_hi s k
      obtain ⟨c, hbc⟩ : ∃ c, byteAt s k = c := ⟨_, rfl⟩
      rw [hbc] at hb c0 c1
      cases ed with
      | true =>
        have HE : Hid (if false = true then end3 (byteAt s) s.size true q (min (k + 1 + 1) s.size) 0 = R else end3 (byteAt s) s.size true q (k + 1) 0 = R) := by
          show end3 (byteAt s) s.size true q (k + 1) 0 = R
          have h5 : end3 (byteAt s) s.size true q (min (k + 1) s.size) 0 = R := hrel
          rwa [show min (k + 1) s.size = k + 1 from by omega] at h5
        clear hrel hbc
        go_wp2
        go_round
        case rel => exact ⟨k + 1, false, 0, by omega, by omega, by go_num, rfl, by go_num, HE.out⟩
        case measure => simp [intOf]; omega
      | false =>
        have HK : Hid (end3 (byteAt s) s.size true q k run = R) := hrel
        clear hrel
        by_cases hcq : c = q
        · have htq : (c == q) = true := by simpa using hcq
          have HE : Hid (if false = true then end3 (byteAt s) s.size true q (min (k + 1 + 1) s.size) 0 = R else end3 (byteAt s) s.size true q (k + 1) (run + 1) = R) := by
            show end3 (byteAt s) s.size true q (k + 1) (run + 1) = R
            rw [← end3_quote _ _ _ _ hlt (hbc.trans hcq)]; exact HK.out
          clear hcq hbc
          go_wp2
          go_round
          case rel => exact ⟨k + 1, false, run + 1, by omega, by omega, by go_num, rfl, by go_num, HE.out⟩
          case measure => simp [intOf]; omega
        · have htq : (c == q) = false := by simpa using hcq
          by_cases h3 : 3 ≤ run
          · have h3' : (3 : Int) ≤ (run : Int) := by omega
            have HE : Hid (R = k) := by
              show R = k
              rw [← HK.out, end3_stop _ _ _ _ hlt (fun hh => hcq (hbc.symm.trans hh)) h3]
            clear hcq hbc
            go_wp2
            go_ret
            exact ⟨ret_int (by rw [HE.out]), rfl⟩
          · have h3' : (run : Int) < 3 := by omega
            by_cases h9 : c = 92
            · have ht9 : (c == 92) = true := by simpa using h9
              have HE : Hid (if true = true then end3 (byteAt s) s.size true q (min (k + 1 + 1) s.size) 0 = R else end3 (byteAt s) s.size true q (k + 1) 0 = R) := by
                show end3 (byteAt s) s.size true q (min (k + 1 + 1) s.size) 0 = R
                rw [← end3_skip _ _ _ _ hlt (fun hh => hcq (hbc.symm.trans hh)) h3 rfl (hbc.trans h9)]; exact HK.out
              clear h9 hbc hcq
              go_wp2
              go_round
              case rel => exact ⟨k + 1, true, 0, by omega, by omega, by go_num, rfl, by go_num, HE.out⟩
              case measure => simp [intOf]; omega
            · have ht9 : (c == 92) = false := by simpa using h9
              have HNE : Hid (¬ (true = true ∧ byteAt s k = 92)) := fun hh => h9 (hbc.symm.trans hh.2)
              clear h9
              have HE : Hid (if false = true then end3 (byteAt s) s.size true q (min (k + 1 + 1) s.size) 0 = R else end3 (byteAt s) s.size true q (k + 1) 0 = R) := by
                show end3 (byteAt s) s.size true q (k + 1) 0 = R
                rw [← end3_next _ _ _ _ hlt (fun hh => hcq (hbc.symm.trans hh)) h3 HNE.out]; exact HK.out
              clear hcq hbc
              go_wp2
              go_round
              case rel => exact ⟨k + 1, false, 0, by omega, by omega, by go_num, rfl, by go_num, HE.out⟩
              case measure => simp [intOf]; omega
    · have HE : Hid (R = s.size) := by
        show R = s.size
        have hk2 : k = s.size := by omega
        cases ed with
        | true => have h5 : end3 (byteAt s) s.size true q (min (k + 1) s.size) 0 = R := hrel; rw [← h5, show min (k + 1) s.size = s.size from by omega, end3_end _ _ _ _ (Nat.le_refl _)]
        | false => have h5 : end3 (byteAt s) s.size true q k run = R := hrel; rw [← h5, hk2, end3_end _ _ _ _ (Nat.le_refl _)]
      clear hrel
      go_wp2
      go_ret
      exact ⟨ret_int (by rw [HE.out]), rfl⟩

set_option maxHeartbeats 1000000 in
theorem model_d_lit (s : ByteArray) (i R : Nat) (h : s.size ≤ 1048576) (hi : i < s.size) (hq92 : byteAt s i ≠ 92) (hesc : (byteAt s i == 34) = false)
    (g : i + 2 < s.size) (e1 : byteAt s (i + 1) = byteAt s i) (e2 : byteAt s (i + 2) = byteAt s i) (HR : Hid (end3 (byteAt s) s.size false (byteAt s i) (i + 3) 0 = R)) (w : World) :
    Calls Try.prog 9 #[.string s, .int .i64 (i : Int)] w fun e w' => e = .returned (.int .i64 (R : Int)) ∧ w' = w := by
  have hb := byteAt_eq s i hi
  have h' : (s.size : Int) ≤ 1048576 := by omega
  have hi' : (i : Int) < (s.size : Int) := by omega
  have g0 : (i : Int) + 2 < (s.size : Int) := by omega
  have hb1 := byteAt_eq s (i + 1) (Nat.lt_of_succ_lt g)
  rw [e1] at hb1
  have hb2 := byteAt_eq s (i + 2) g
  rw [e2] at hb2
  clear e1 e2
  have HQ92 : Hid (byteAt s i ≠ 92) := hq92
  clear hq92
  generalize byteAt s i = q at *
  go_enter Try.func9, Try.ntmps9
  go_wp2
  clear hb hb1 hb2
  go_loop [9, 10, 11] (fun ev rv kv => ∃ (k : Nat) (ed : Bool) (run : Nat), k ≤ s.size ∧ run ≤ k ∧ kv = .int .i64 k ∧ ev = .bool ed ∧ rv = .int .i64 run ∧ (if ed = true then end3 (byteAt s) s.size false q (min (k + 1) s.size) 0 = R else end3 (byteAt s) s.size false q k run = R)) (fun _ _ kv => s.size - (intOf kv).toNat)
  case atStart => exact ⟨i + 3, false, 0, by omega, by omega, by go_num, rfl, rfl, HR.out⟩
  case round =>
    obtain ⟨k, ed, run, hk, hrun, rfl, rfl, rfl, hrel⟩ := hrel
    by_cases hlt : k < s.size
    · have hlt' : (k : Int) < (s.size : Int) := by omega
      have hb := byteAt_eq s k hlt
      have c0 := byteAt_lo s k
      have c1 := byteAt_hi s k
      obtain ⟨c, hbc⟩ : ∃ c, byteAt s k = c := ⟨_, rfl⟩
      rw [hbc] at hb c0 c1
      cases ed with
      | true =>
        have HE : Hid (if false = true then end3 (byteAt s) s.size false q (min (k + 1 + 1) s.size) 0 = R else end3 (byteAt s) s.size false q (k + 1) 0 = R) := by
          show end3 (byteAt s) s.size false q (k + 1) 0 = R
          have h5 : end3 (byteAt s) s.size false q (min (k + 1) s.size) 0 = R := hrel
          rwa [show min (k + 1) s.size = k + 1 from by omega] at h5
        clear hrel hbc
        go_wp2
        go_round
        case rel => exact ⟨k + 1, false, 0, by omega, by omega, by go_num, rfl, by go_num, HE.out⟩
        case measure => simp [intOf]; omega
      | false =>
        have HK : Hid (end3 (byteAt s) s.size false q k run = R) := hrel
        clear hrel
        by_cases hcq : c = q
        · have htq : (c == q) = true := by simpa using hcq
          have HE : Hid (if false = true then end3 (byteAt s) s.size false q (min (k + 1 + 1) s.size) 0 = R else end3 (byteAt s) s.size false q (k + 1) (run + 1) = R) := by
            show end3 (byteAt s) s.size false q (k + 1) (run + 1) = R
            rw [← end3_quote _ _ _ _ hlt (hbc.trans hcq)]; exact HK.out
          clear hcq hbc
          go_wp2
          go_round
          case rel => exact ⟨k + 1, false, run + 1, by omega, by omega, by go_num, rfl, by go_num, HE.out⟩
          case measure => simp [intOf]; omega
        · have htq : (c == q) = false := by simpa using hcq
          by_cases h3 : 3 ≤ run
          · have h3' : (3 : Int) ≤ (run : Int) := by omega
            have HE : Hid (R = k) := by
              show R = k
              rw [← HK.out, end3_stop _ _ _ _ hlt (fun hh => hcq (hbc.symm.trans hh)) h3]
            clear hcq hbc
            go_wp2
            go_ret
            exact ⟨ret_int (by rw [HE.out]), rfl⟩
          · have h3' : (run : Int) < 3 := by omega
            have HNE : Hid (¬ (false = true ∧ byteAt s k = 92)) := fun hh => absurd hh.1 (by decide)
            have HE : Hid (if false = true then end3 (byteAt s) s.size false q (min (k + 1 + 1) s.size) 0 = R else end3 (byteAt s) s.size false q (k + 1) 0 = R) := by
              show end3 (byteAt s) s.size false q (k + 1) 0 = R
              rw [← end3_next _ _ _ _ hlt (fun hh => hcq (hbc.symm.trans hh)) h3 HNE.out]; exact HK.out
            clear hcq hbc
            go_wp2
            go_round
            case rel => exact ⟨k + 1, false, 0, by omega, by omega, by go_num, rfl, by go_num, HE.out⟩
            case measure => simp [intOf]; omega
    · have HE : Hid (R = s.size) := by
        show R = s.size
        have hk2 : k = s.size := by omega
        cases ed with
        | true => have h5 : end3 (byteAt s) s.size false q (min (k + 1) s.size) 0 = R := hrel; rw [← h5, show min (k + 1) s.size = s.size from by omega, end3_end _ _ _ _ (Nat.le_refl _)]
        | false => have h5 : end3 (byteAt s) s.size false q k run = R := hrel; rw [← h5, hk2, end3_end _ _ _ _ (Nat.le_refl _)]
      clear hrel
      go_wp2
      go_ret
      exact ⟨ret_int (by rw [HE.out]), rfl⟩

theorem model_any (s : ByteArray) (i : Nat) (hi : i < s.size) (h : s.size ≤ 1048576) (hq : byteAt s i = 34 ∨ byteAt s i = 39) (w : World) :
    Calls Try.prog 9 #[.string s, .int .i64 (i : Int)] w fun e w' => e = .returned (.int .i64 (strEnd (byteAt s) s.size i : Nat)) ∧ w' = w := by
  have hq92 : byteAt s i ≠ 92 := by omega
  cases he : (byteAt s i == 34) with
  | true =>
    by_cases g : i + 2 < s.size
    · by_cases e1 : byteAt s (i + 1) = byteAt s i
      · by_cases e2 : byteAt s (i + 2) = byteAt s i
        · have hm : multi (byteAt s) s.size i = true := by unfold multi; simp [g, e1, e2]
          exact model_d_esc s i _ h hi hq92 he g e1 e2 (by show _ = strEnd _ _ _; unfold strEnd; rw [hm, he]; rfl) w
        · have hm : multi (byteAt s) s.size i = false := by unfold multi; simp [e2]
          exact model_c_esc s i _ h hi hq92 he g e1 e2 (by show _ = strEnd _ _ _; unfold strEnd; rw [hm, he]; rfl) w
      · have hm : multi (byteAt s) s.size i = false := by unfold multi; simp [e1]
        exact model_b_esc s i _ h hi hq92 he g e1 (by show _ = strEnd _ _ _; unfold strEnd; rw [hm, he]; rfl) w
    · have hm : multi (byteAt s) s.size i = false := by unfold multi; simp [g]
      exact model_a_esc s i _ h hi hq92 he g (by show _ = strEnd _ _ _; unfold strEnd; rw [hm, he]; rfl) w
  | false =>
    by_cases g : i + 2 < s.size
    · by_cases e1 : byteAt s (i + 1) = byteAt s i
      · by_cases e2 : byteAt s (i + 2) = byteAt s i
        · have hm : multi (byteAt s) s.size i = true := by unfold multi; simp [g, e1, e2]
          exact model_d_lit s i _ h hi hq92 he g e1 e2 (by show _ = strEnd _ _ _; unfold strEnd; rw [hm, he]; rfl) w
        · have hm : multi (byteAt s) s.size i = false := by unfold multi; simp [e2]
          exact model_c_lit s i _ h hi hq92 he g e1 e2 (by show _ = strEnd _ _ _; unfold strEnd; rw [hm, he]; rfl) w
      · have hm : multi (byteAt s) s.size i = false := by unfold multi; simp [e1]
        exact model_b_lit s i _ h hi hq92 he g e1 (by show _ = strEnd _ _ _; unfold strEnd; rw [hm, he]; rfl) w
    · have hm : multi (byteAt s) s.size i = false := by unfold multi; simp [g]
      exact model_a_lit s i _ h hi hq92 he g (by show _ = strEnd _ _ _; unfold strEnd; rw [hm, he]; rfl) w
end Go.Proofs.Qxb6603928a
