import Derived.Test.Qxb6603928aStrEnd
namespace Go.Proofs.Qxb6603928a
open Go.ChangeShapes Go.WideShapes Go.ChangeAt Go.RowKit
set_option linter.unusedSimpArgs false

theorem int_eq {k : IntKind} {a b : Int} (h : a = b) : Value.int k a = Value.int k b := by rw [h]

set_option maxHeartbeats 1000000 in
theorem stringEnd_many_lit (s : ByteArray) (i : Nat) (hi : i < s.size) (hs : s.size ≤ 1048576) (hq : byteAt s i = 34 ∨ byteAt s i = 39) (hm : multi (byteAt s) s.size i = true) (hesc : (byteAt s i == 34) = false) (w : World) :
    Calls Try.prog 14 #[.string s, .int .i64 (i : Int)] w fun e w' => e = .returned (.int .i64 (strEnd (byteAt s) s.size i : Nat)) ∧ Below w.heap.size w w' := by
  have hb := byteAt_eq s i hi
  have hcv := fun w => conv_quote (byteAt s i) hq w
  have HP : Hid (∀ w, Calls Try.prog 16 #[.string (s.extract i s.size), .string (three (byteAt s i))] w fun e w' => e = .returned (.bool true) ∧ w' = w) := fun w => by
    rw [← hm, ← prefix_multi s i hi hq]; exact Try.strings_HasPrefix _ _ w
  have HR : Hid (strEnd (byteAt s) s.size i = end3 (byteAt s) s.size false (byteAt s i) (i + 3) 0) := by
    show strEnd _ _ _ = _
    unfold strEnd
    rw [hm, hesc]; rfl
  have h1 : (i : Int) < (s.size : Int) := by omega
  have h2 : (s.size : Int) ≤ 1048576 := by omega
  have h3 : i ≤ s.size := by omega
  have h4 : i + 3 ≤ s.size := multi_lt hm
  clear hm
  generalize hqq : byteAt s i = q at *
  have HQ : Hid (byteAt s i = q) := hqq
  clear hqq
  generalize strEnd (byteAt s) s.size i = R at *
  go_enter Try.func14, Try.ntmps14
  go_wp2
  refine wp_region_Hw (S := fun w' => Below w.heap.size w w') [(0, true), (1, true), (2, true), (3, true), (4, true), (5, false), (6, false), (7, true)] (by kernel_rfl) (by kernel_rfl) rfl (by kernel_rfl) (fun _ _ _ _ h => h) (Below.refl _ _).drew (fun hHeld => ?_)
  simp only [pick, List.map_cons, List.map_nil, Array.getD_eq_getD_getElem?, List.getElem?_toArray, List.getElem?_cons_zero, List.getElem?_cons_succ, Option.getD_some]
  refine hw_move _ rfl rfl ?_
  simp only [Act.put, Act.eval, List.setIfInBounds_toArray, List.set_cons_zero, List.set_cons_succ, Array.getD_eq_getD_getElem?, List.getElem?_toArray, List.getElem?_cons_zero, List.getElem?_cons_succ, Option.getD_some]
  refine hw_move _ rfl rfl ?_
  simp only [Act.put, Act.eval, List.setIfInBounds_toArray, List.set_cons_zero, List.set_cons_succ, Array.getD_eq_getD_getElem?, List.getElem?_toArray, List.getElem?_cons_zero, List.getElem?_cons_succ, Option.getD_some]
  refine hw_ex rfl ?_; apply Exists.intro; refine ⟨fun w hSw => ?_, ?_⟩; (go_simp; first | done | (with_reducible rfl))
  simp only [Act.put, Act.eval, List.setIfInBounds_toArray, List.set_cons_zero, List.set_cons_succ, Array.getD_eq_getD_getElem?, List.getElem?_toArray, List.getElem?_cons_zero, List.getElem?_cons_succ, Option.getD_some]
  refine hw_move _ rfl rfl ?_
  simp only [Act.put, Act.eval, List.setIfInBounds_toArray, List.set_cons_zero, List.set_cons_succ, Array.getD_eq_getD_getElem?, List.getElem?_toArray, List.getElem?_cons_zero, List.getElem?_cons_succ, Option.getD_some]
  refine hw_ex rfl ?_; apply Exists.intro; refine ⟨fun w hSw => ?_, ?_⟩; (go_simp; first | done | (with_reducible rfl))
  simp only [Act.put, Act.eval, List.setIfInBounds_toArray, List.set_cons_zero, List.set_cons_succ, Array.getD_eq_getD_getElem?, List.getElem?_toArray, List.getElem?_cons_zero, List.getElem?_cons_succ, Option.getD_some]
  refine hw_do rfl (fun K hK => ?_)
  go_wp2_with (go_at_call 17; refine (repeat3 q _).mono ?_; rintro e w1 ⟨rfl, hb1⟩)
  have hb1' : Below w.heap.size w w1 := ((Below.refl _ _).drew).trans hb1
  refine hK.out _ _ hb1' (fun hHeld => ?_)
  clear hK K hb1
  refine hw_do rfl (fun K hK => ?_)
  go_wp2_with (go_at_call 16; refine (HP.out _).mono ?_; rintro e w2 ⟨rfl, rfl⟩)
  refine hK.out _ _ hb1' (fun hHeld => ?_)
  clear hK K
  refine hw_ex rfl ?_; apply Exists.intro; refine ⟨fun w hSw => ?_, ?_⟩; (go_simp; first | done | (with_reducible rfl))
  simp only [Act.put, Act.eval, List.setIfInBounds_toArray, List.set_cons_zero, List.set_cons_succ, Array.getD_eq_getD_getElem?, List.getElem?_toArray, List.getElem?_cons_zero, List.getElem?_cons_succ, Option.getD_some]
  refine hw_nil ?_
  clear hcv HP hb
  go_wp2
  go_loop [9] (fun j => ∃ k : Nat, k ≤ s.size + 1 ∧ j = .int .i64 k ∧ end3 (byteAt s) s.size false q (min k s.size) 0 = R) (fun j => s.size + 1 - (intOf j).toNat)
  case atStart => exact ⟨i + 3, by omega, by go_num, by rw [show min (i + 3) s.size = i + 3 from by omega]; exact HR.out.symm⟩
  case round =>
    obtain ⟨k, hk, rfl, hrel⟩ := hrel
    by_cases hlt : k < s.size
    · have HKm : Hid (end3 (byteAt s) s.size false q k 0 = R) := by rw [show min k s.size = k from by omega] at hrel; exact hrel
      clear hrel
      have hlt' : (k : Int) < (s.size : Int) := by omega
      have hb := byteAt_eq s k hlt
      have c0 := byteAt_lo s k
      have c1 := byteAt_hi s k
      obtain ⟨c, hbc⟩ : ∃ c, byteAt s k = c := ⟨_, rfl⟩
      rw [hbc] at hb c0 c1
      have HN : Hid (¬ (false = true ∧ byteAt s k = 92)) := fun hh => absurd hh.1 (by decide)
      clear hbc
      go_wp2
      go_loop [10] (fun r => ∃ m : Nat, k + m ≤ s.size ∧ r = .int .i64 ((k : Int) + (m : Int)) ∧ ∀ t, t < m → byteAt s (k + t) = q) (fun r => s.size - (intOf r).toNat)
      case atStart => exact ⟨0, by omega, by go_num, fun t ht => absurd ht (Nat.not_lt_zero _)⟩
      case round =>
        obtain ⟨m, hm, rfl, hall⟩ := hrel
        have HA : Hid (∀ t, t < m → byteAt s (k + t) = q) := hall
        clear hall
        have cases3 : (∃ hl : k + m < s.size, byteAt s (k + m) = q) ∨ ((∃ hl : k + m < s.size, byteAt s (k + m) ≠ q) ∨ k + m = s.size) := by
          by_cases hl : k + m < s.size
          · by_cases hc : byteAt s (k + m) = q
            · exact Or.inl ⟨hl, hc⟩
            · exact Or.inr (Or.inl ⟨hl, hc⟩)
          · exact Or.inr (Or.inr (by omega))
        rcases cases3 with ⟨hl, hc⟩ | hx
        · have hbb := byteAt_eq s (k + m) hl
          have HC : Hid (byteAt s (k + m) = q) := hc
          rw [hc] at hbb
          clear hc
          have hl' : (k : Int) + (m : Int) < (s.size : Int) := by omega
          go_wp2
          go_round
          case rel => exact ⟨m + 1, by omega, by go_num, fun t ht => by
            rcases Nat.lt_succ_iff_lt_or_eq.1 ht with h5 | h5
            · exact HA.out t h5
            · subst h5; exact HC.out⟩
          case measure => simp [intOf]; omega
        · have HX : Hid (k + m < s.size → byteAt s (k + m) ≠ q) := fun hl => by
            rcases hx with ⟨_, hc⟩ | he
            · exact hc
            · omega
          have AF := end3_after (byteAt s) s.size false q hlt hm HA.out HX.out HN.out HKm.out
          have HF : Hid ((3 ≤ m → R = k + m) ∧ (0 < m → m < 3 → end3 (byteAt s) s.size false q (k + m) 0 = R) ∧ (m = 0 → end3 (byteAt s) s.size false q (k + 1) 0 = R)) := AF
          clear AF
          rcases hx with ⟨hl, hc⟩ | he
          · have hbb := byteAt_eq s (k + m) hl
            obtain ⟨c2, hc2⟩ : ∃ c2, byteAt s (k + m) = c2 := ⟨_, rfl⟩
            rw [hc2] at hbb hc
            have hcq : (c2 == q) = false := by simpa using hc
            clear hc hc2
            have hl' : (k : Int) + (m : Int) < (s.size : Int) := by omega
            by_cases m3 : 3 ≤ m
            · have m3' : (3 : Int) ≤ (m : Int) := by omega
              have e1 : (k : Int) + (m : Int) - (k : Int) = (m : Int) := by omega
              go_wp2
              go_ret
              exact ⟨ret_int (by show ((k : Int) + (m : Int)) = _; have := HF.out.1 m3; omega), hb1'⟩
            · have m3' : (m : Int) < 3 := by omega
              have e1 : (k : Int) + (m : Int) - (k : Int) = (m : Int) := by omega
              by_cases m0 : m = 0
              · have HE : Hid (end3 (byteAt s) s.size false q (min (k + 1) s.size) 0 = R) := by rw [show min (k + 1) s.size = k + 1 from by omega]; exact HF.out.2.2 m0
                have m0' : (m : Int) ≤ 0 := by omega
                clear m0
                go_wp2
                go_round
                case rel => exact ⟨k + 1, by omega, int_eq (by omega), HE.out⟩
                case measure => simp [intOf]; omega
              · have HE : Hid (end3 (byteAt s) s.size false q (min (k + m) s.size) 0 = R) := by rw [show min (k + m) s.size = k + m from by omega]; exact HF.out.2.1 (by omega) (by omega)
                have m0' : (1 : Int) ≤ (m : Int) := by omega
                clear m0
                go_wp2
                go_round
                case rel => exact ⟨k + m, by omega, int_eq (by omega), HE.out⟩
                case measure => simp [intOf]; omega
          · have hl' : decide ((k : Int) + (m : Int) < (s.size : Int)) = false := by simp; omega
            clear he
            by_cases m3 : 3 ≤ m
            · have m3' : (3 : Int) ≤ (m : Int) := by omega
              have e1 : (k : Int) + (m : Int) - (k : Int) = (m : Int) := by omega
              go_wp2
              go_ret
              exact ⟨ret_int (by show ((k : Int) + (m : Int)) = _; have := HF.out.1 m3; omega), hb1'⟩
            · have m3' : (m : Int) < 3 := by omega
              have e1 : (k : Int) + (m : Int) - (k : Int) = (m : Int) := by omega
              by_cases m0 : m = 0
              · have HE : Hid (end3 (byteAt s) s.size false q (min (k + 1) s.size) 0 = R) := by rw [show min (k + 1) s.size = k + 1 from by omega]; exact HF.out.2.2 m0
                have m0' : (m : Int) ≤ 0 := by omega
                clear m0
                go_wp2
                go_round
                case rel => exact ⟨k + 1, by omega, int_eq (by omega), HE.out⟩
                case measure => simp [intOf]; omega
              · have HE : Hid (end3 (byteAt s) s.size false q (min (k + m) s.size) 0 = R) := by rw [show min (k + m) s.size = k + m from by omega]; exact HF.out.2.1 (by omega) (by omega)
                have m0' : (1 : Int) ≤ (m : Int) := by omega
                clear m0
                go_wp2
                go_round
                case rel => exact ⟨k + m, by omega, int_eq (by omega), HE.out⟩
                case measure => simp [intOf]; omega
    · have HE : Hid (R = s.size) := by show R = s.size; rw [← hrel, show min k s.size = s.size from by omega, end3_end _ _ _ _ (Nat.le_refl _)]
      clear hrel
      go_wp2
      go_ret
      exact ⟨ret_int (by rw [HE.out]), hb1'⟩

set_option maxHeartbeats 1000000 in
theorem stringEnd_many_esc (s : ByteArray) (i : Nat) (hi : i < s.size) (hs : s.size ≤ 1048576) (hq : byteAt s i = 34 ∨ byteAt s i = 39) (hm : multi (byteAt s) s.size i = true) (hesc : (byteAt s i == 34) = true) (w : World) :
    Calls Try.prog 14 #[.string s, .int .i64 (i : Int)] w fun e w' => e = .returned (.int .i64 (strEnd (byteAt s) s.size i : Nat)) ∧ Below w.heap.size w w' := by
  have hb := byteAt_eq s i hi
  have hcv := fun w => conv_quote (byteAt s i) hq w
  have HP : Hid (∀ w, Calls Try.prog 16 #[.string (s.extract i s.size), .string (three (byteAt s i))] w fun e w' => e = .returned (.bool true) ∧ w' = w) := fun w => by
    rw [← hm, ← prefix_multi s i hi hq]; exact Try.strings_HasPrefix _ _ w
  have HR : Hid (strEnd (byteAt s) s.size i = end3 (byteAt s) s.size true (byteAt s i) (i + 3) 0) := by
    show strEnd _ _ _ = _
    unfold strEnd
    rw [hm, hesc]; rfl
  have h1 : (i : Int) < (s.size : Int) := by omega
  have h2 : (s.size : Int) ≤ 1048576 := by omega
  have h3 : i ≤ s.size := by omega
  have hq34 : Hid (byteAt s i = 34) := by show byteAt s i = 34; simpa using hesc
  have h4 : i + 3 ≤ s.size := multi_lt hm
  clear hm
  generalize hqq : byteAt s i = q at *
  have HQ : Hid (byteAt s i = q) := hqq
  clear hqq
  generalize strEnd (byteAt s) s.size i = R at *
  go_enter Try.func14, Try.ntmps14
  go_wp2
  refine wp_region_Hw (S := fun w' => Below w.heap.size w w') [(0, true), (1, true), (2, true), (3, true), (4, true), (5, false), (6, false), (7, true)] (by kernel_rfl) (by kernel_rfl) rfl (by kernel_rfl) (fun _ _ _ _ h => h) (Below.refl _ _).drew (fun hHeld => ?_)
  simp only [pick, List.map_cons, List.map_nil, Array.getD_eq_getD_getElem?, List.getElem?_toArray, List.getElem?_cons_zero, List.getElem?_cons_succ, Option.getD_some]
  refine hw_move _ rfl rfl ?_
  simp only [Act.put, Act.eval, List.setIfInBounds_toArray, List.set_cons_zero, List.set_cons_succ, Array.getD_eq_getD_getElem?, List.getElem?_toArray, List.getElem?_cons_zero, List.getElem?_cons_succ, Option.getD_some]
  refine hw_move _ rfl rfl ?_
  simp only [Act.put, Act.eval, List.setIfInBounds_toArray, List.set_cons_zero, List.set_cons_succ, Array.getD_eq_getD_getElem?, List.getElem?_toArray, List.getElem?_cons_zero, List.getElem?_cons_succ, Option.getD_some]
  refine hw_ex rfl ?_; apply Exists.intro; refine ⟨fun w hSw => ?_, ?_⟩; (go_simp; first | done | (with_reducible rfl))
  simp only [Act.put, Act.eval, List.setIfInBounds_toArray, List.set_cons_zero, List.set_cons_succ, Array.getD_eq_getD_getElem?, List.getElem?_toArray, List.getElem?_cons_zero, List.getElem?_cons_succ, Option.getD_some]
  refine hw_move _ rfl rfl ?_
  simp only [Act.put, Act.eval, List.setIfInBounds_toArray, List.set_cons_zero, List.set_cons_succ, Array.getD_eq_getD_getElem?, List.getElem?_toArray, List.getElem?_cons_zero, List.getElem?_cons_succ, Option.getD_some]
  refine hw_ex rfl ?_; apply Exists.intro; refine ⟨fun w hSw => ?_, ?_⟩; (go_simp; first | done | (with_reducible rfl))
  simp only [Act.put, Act.eval, List.setIfInBounds_toArray, List.set_cons_zero, List.set_cons_succ, Array.getD_eq_getD_getElem?, List.getElem?_toArray, List.getElem?_cons_zero, List.getElem?_cons_succ, Option.getD_some]
  refine hw_do rfl (fun K hK => ?_)
  go_wp2_with (go_at_call 17; refine (repeat3 q _).mono ?_; rintro e w1 ⟨rfl, hb1⟩)
  have hb1' : Below w.heap.size w w1 := ((Below.refl _ _).drew).trans hb1
  refine hK.out _ _ hb1' (fun hHeld => ?_)
  clear hK K hb1
  refine hw_do rfl (fun K hK => ?_)
  go_wp2_with (go_at_call 16; refine (HP.out _).mono ?_; rintro e w2 ⟨rfl, rfl⟩)
  refine hK.out _ _ hb1' (fun hHeld => ?_)
  clear hK K
  refine hw_ex rfl ?_; apply Exists.intro; refine ⟨fun w hSw => ?_, ?_⟩; (go_simp; first | done | (with_reducible rfl))
  simp only [Act.put, Act.eval, List.setIfInBounds_toArray, List.set_cons_zero, List.set_cons_succ, Array.getD_eq_getD_getElem?, List.getElem?_toArray, List.getElem?_cons_zero, List.getElem?_cons_succ, Option.getD_some]
  refine hw_nil ?_
  clear hcv HP hb
  go_wp2
  go_loop [9] (fun j => ∃ k : Nat, k ≤ s.size + 1 ∧ j = .int .i64 k ∧ end3 (byteAt s) s.size true q (min k s.size) 0 = R) (fun j => s.size + 1 - (intOf j).toNat)
  case atStart => exact ⟨i + 3, by omega, by go_num, by rw [show min (i + 3) s.size = i + 3 from by omega]; exact HR.out.symm⟩
  case round =>
    obtain ⟨k, hk, rfl, hrel⟩ := hrel
    by_cases hlt : k < s.size
    · have HKm : Hid (end3 (byteAt s) s.size true q k 0 = R) := by rw [show min k s.size = k from by omega] at hrel; exact hrel
      clear hrel
      have hlt' : (k : Int) < (s.size : Int) := by omega
      have hb := byteAt_eq s k hlt
      have c0 := byteAt_lo s k
      have c1 := byteAt_hi s k
      obtain ⟨c, hbc⟩ : ∃ c, byteAt s k = c := ⟨_, rfl⟩
      rw [hbc] at hb c0 c1
      by_cases h9 : c = 92
      · have ht : (c == 92) = true := by simpa using h9
        have HE : Hid (end3 (byteAt s) s.size true q (min (k + 2) s.size) 0 = R) := by
          have h34 : q = 34 := hq34.out
          rw [← end3_skip _ _ _ _ hlt (by rw [hbc, h9, h34]; decide) (show ¬ 3 ≤ 0 by omega) rfl (hbc.trans h9)]; exact HKm.out
        clear h9 hbc
        go_wp2
        go_round
        case rel => exact ⟨k + 2, by omega, by go_num, HE.out⟩
        case measure => simp [intOf]; omega
      · have ht9 : (c == 92) = false := by simpa using h9
        have HN : Hid (byteAt s k ≠ 92) := fun hh => h9 (hbc.symm.trans hh)
        clear h9 hbc
        go_wp2
        go_loop [10] (fun r => ∃ m : Nat, k + m ≤ s.size ∧ r = .int .i64 ((k : Int) + (m : Int)) ∧ ∀ t, t < m → byteAt s (k + t) = q) (fun r => s.size - (intOf r).toNat)
        case atStart => exact ⟨0, by omega, by go_num, fun t ht => absurd ht (Nat.not_lt_zero _)⟩
        case round =>
          obtain ⟨m, hm, rfl, hall⟩ := hrel
          have HA : Hid (∀ t, t < m → byteAt s (k + t) = q) := hall
          clear hall
          have cases3 : (∃ hl : k + m < s.size, byteAt s (k + m) = q) ∨ ((∃ hl : k + m < s.size, byteAt s (k + m) ≠ q) ∨ k + m = s.size) := by
            by_cases hl : k + m < s.size
            · by_cases hc : byteAt s (k + m) = q
              · exact Or.inl ⟨hl, hc⟩
              · exact Or.inr (Or.inl ⟨hl, hc⟩)
            · exact Or.inr (Or.inr (by omega))
          rcases cases3 with ⟨hl, hc⟩ | hx
          · have hbb := byteAt_eq s (k + m) hl
            have HC : Hid (byteAt s (k + m) = q) := hc
            rw [hc] at hbb
            clear hc
            have hl' : (k : Int) + (m : Int) < (s.size : Int) := by omega
            go_wp2
            go_round
            case rel => exact ⟨m + 1, by omega, by go_num, fun t ht => by
              rcases Nat.lt_succ_iff_lt_or_eq.1 ht with h5 | h5
              · exact HA.out t h5
              · subst h5; exact HC.out⟩
            case measure => simp [intOf]; omega
          · have HX : Hid (k + m < s.size → byteAt s (k + m) ≠ q) := fun hl => by
              rcases hx with ⟨_, hc⟩ | he
              · exact hc
              · omega
            have AF := end3_after (byteAt s) s.size true q hlt hm HA.out HX.out (fun hh => HN.out hh.2) HKm.out
            have HF : Hid ((3 ≤ m → R = k + m) ∧ (0 < m → m < 3 → end3 (byteAt s) s.size true q (k + m) 0 = R) ∧ (m = 0 → end3 (byteAt s) s.size true q (k + 1) 0 = R)) := AF
            clear AF
            rcases hx with ⟨hl, hc⟩ | he
            · have hbb := byteAt_eq s (k + m) hl
              obtain ⟨c2, hc2⟩ : ∃ c2, byteAt s (k + m) = c2 := ⟨_, rfl⟩
              rw [hc2] at hbb hc
              have hcq : (c2 == q) = false := by simpa using hc
              clear hc hc2
              have hl' : (k : Int) + (m : Int) < (s.size : Int) := by omega
              by_cases m3 : 3 ≤ m
              · have m3' : (3 : Int) ≤ (m : Int) := by omega
                have e1 : (k : Int) + (m : Int) - (k : Int) = (m : Int) := by omega
                go_wp2
                go_ret
                exact ⟨ret_int (by show ((k : Int) + (m : Int)) = _; have := HF.out.1 m3; omega), hb1'⟩
              · have m3' : (m : Int) < 3 := by omega
                have e1 : (k : Int) + (m : Int) - (k : Int) = (m : Int) := by omega
                by_cases m0 : m = 0
                · have HE : Hid (end3 (byteAt s) s.size true q (min (k + 1) s.size) 0 = R) := by rw [show min (k + 1) s.size = k + 1 from by omega]; exact HF.out.2.2 m0
                  have m0' : (m : Int) ≤ 0 := by omega
                  clear m0
                  go_wp2
                  go_round
                  case rel => exact ⟨k + 1, by omega, int_eq (by omega), HE.out⟩
                  case measure => simp [intOf]; omega
                · have HE : Hid (end3 (byteAt s) s.size true q (min (k + m) s.size) 0 = R) := by rw [show min (k + m) s.size = k + m from by omega]; exact HF.out.2.1 (by omega) (by omega)
                  have m0' : (1 : Int) ≤ (m : Int) := by omega
                  clear m0
                  go_wp2
                  go_round
                  case rel => exact ⟨k + m, by omega, int_eq (by omega), HE.out⟩
                  case measure => simp [intOf]; omega
            · have hl' : decide ((k : Int) + (m : Int) < (s.size : Int)) = false := by simp; omega
              clear he
              by_cases m3 : 3 ≤ m
              · have m3' : (3 : Int) ≤ (m : Int) := by omega
                have e1 : (k : Int) + (m : Int) - (k : Int) = (m : Int) := by omega
                go_wp2
                go_ret
                exact ⟨ret_int (by show ((k : Int) + (m : Int)) = _; have := HF.out.1 m3; omega), hb1'⟩
              · have m3' : (m : Int) < 3 := by omega
                have e1 : (k : Int) + (m : Int) - (k : Int) = (m : Int) := by omega
                by_cases m0 : m = 0
                · have HE : Hid (end3 (byteAt s) s.size true q (min (k + 1) s.size) 0 = R) := by rw [show min (k + 1) s.size = k + 1 from by omega]; exact HF.out.2.2 m0
                  have m0' : (m : Int) ≤ 0 := by omega
                  clear m0
                  go_wp2
                  go_round
                  case rel => exact ⟨k + 1, by omega, int_eq (by omega), HE.out⟩
                  case measure => simp [intOf]; omega
                · have HE : Hid (end3 (byteAt s) s.size true q (min (k + m) s.size) 0 = R) := by rw [show min (k + m) s.size = k + m from by omega]; exact HF.out.2.1 (by omega) (by omega)
                  have m0' : (1 : Int) ≤ (m : Int) := by omega
                  clear m0
                  go_wp2
                  go_round
                  case rel => exact ⟨k + m, by omega, int_eq (by omega), HE.out⟩
                  case measure => simp [intOf]; omega
    · have HE : Hid (R = s.size) := by show R = s.size; rw [← hrel, show min k s.size = s.size from by omega, end3_end _ _ _ _ (Nat.le_refl _)]
      clear hrel
      go_wp2
      go_ret
      exact ⟨ret_int (by rw [HE.out]), hb1'⟩

theorem stringEnd_any (s : ByteArray) (i : Nat) (hi : i < s.size) (hs : s.size ≤ 1048576) (hq : byteAt s i = 34 ∨ byteAt s i = 39) (w : World) :
    Calls Try.prog 14 #[.string s, .int .i64 (i : Int)] w fun e w' => e = .returned (.int .i64 (strEnd (byteAt s) s.size i : Nat)) ∧ Below w.heap.size w w' := by
  cases hm : multi (byteAt s) s.size i with
  | false =>
    cases he : (byteAt s i == 34) with
    | true => exact stringEnd_one_esc s i hi hs hq hm he w
    | false => exact stringEnd_one_lit s i hi hs hq hm he w
  | true =>
    cases he : (byteAt s i == 34) with
    | true => exact stringEnd_many_esc s i hi hs hq hm he w
    | false => exact stringEnd_many_lit s i hi hs hq hm he w
end Go.Proofs.Qxb6603928a
