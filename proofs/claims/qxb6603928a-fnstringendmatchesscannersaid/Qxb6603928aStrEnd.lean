import Derived.Test.Qxb6603928aByte
import Derived.Test.Qxb6603928aHeld
import Derived.Test.Qxb6603928aShelf
import Derived.Test.Qxb6603928aScan
import Derived.Lib.Strings
import Derived.Lib.IndexBytes
namespace Go.Proofs.Qxb6603928a
open Go.ChangeShapes Go.WideShapes Go.ChangeAt Go.RowKit
set_option linter.unusedSimpArgs false

def qstr (q : Int) : ByteArray := ⟨#[UInt8.ofNat q.toNat]⟩
theorem conv_quote (q : Int) (hq : q = 34 ∨ q = 39) (w : World) : (convert 5 9 (.int .u8 q)).run Try.prog w = .ok (.string (qstr q)) w := by
  rcases hq with rfl | rfl <;> kernel_rfl

/-- Three quotes. -/
def three (q : Int) : ByteArray := ⟨#[UInt8.ofNat q.toNat, UInt8.ofNat q.toNat, UInt8.ofNat q.toNat]⟩

theorem repeat3 (q : Int) (w : World) :
    Calls Try.prog 17 #[.string (qstr q), .int .i64 3] w fun e w' => e = .returned (.string (three q)) ∧ Below w.heap.size w w' := by
  have h := Try.strings_Repeat_main (qstr q) 3 w (by decide) (by decide) (by show 1 * 3 ≤ _; decide) (by show 0 < 1; decide)
  exact h

theorem byte_of (s : ByteArray) (k : Nat) (q : Int) (hq : q = 34 ∨ q = 39) (h : k < s.size) : (UInt8.ofNat q.toNat == s.data[k]'h) = decide (byteAt s k = q) := by
  rw [← byteAt_eq s k h, Bool.eq_iff_iff]
  have e : (s[k]'h) = s.data[k]'h := rfl
  rw [e]
  generalize s.data[k]'h = c
  simp only [beq_iff_eq, decide_eq_true_eq]
  have hc := c.toNat_lt
  constructor
  · intro h2
    rw [← h2]
    rcases hq with rfl | rfl <;> decide
  · intro h2
    apply UInt8.toNat_inj.1
    rcases hq with rfl | rfl
    · show 34 = _; omega
    · show 39 = _; omega

theorem drop_cons (s : ByteArray) (k : Nat) (h : k < s.size) : s.data.toList.drop k = s.data[k]'h :: s.data.toList.drop (k + 1) := by
  rw [List.drop_eq_getElem_cons (by simpa using h)]
  simp
theorem drop_nil (s : ByteArray) (k : Nat) (h : s.size ≤ k) : s.data.toList.drop k = [] := List.drop_eq_nil_of_le (by simpa using h)

theorem prefix_multi (s : ByteArray) (i : Nat) (hi : i < s.size) (hq : byteAt s i = 34 ∨ byteAt s i = 39) :
    Lib.hasPrefix (s.extract i s.size).data.toList (three (byteAt s i)).data.toList = multi (byteAt s) s.size i := by
  rw [Lib.extract_to_end]
  unfold Lib.hasPrefix three multi
  show List.isPrefixOf [_, _, _] _ = _
  by_cases h2 : i + 2 < s.size
  · rw [drop_cons s i hi, drop_cons s (i + 1) (by omega), drop_cons s (i + 1 + 1) (by omega)]
    simp only [List.isPrefixOf, byte_of s _ _ hq, Bool.and_true, h2, decide_true, Bool.true_and]
  · simp only [h2, decide_false, Bool.false_and]
    by_cases h1 : i + 1 < s.size
    · rw [drop_cons s i hi, drop_cons s (i + 1) (by omega), drop_nil s (i + 1 + 1) (by omega)]
      simp [List.isPrefixOf]
    · rw [drop_cons s i hi, drop_nil s (i + 1) (by omega)]
      simp [List.isPrefixOf]

theorem multi_lt {b : Nat → Int} {n i : Nat} (h : multi b n i = true) : i + 3 ≤ n := by
  unfold multi at h
  simp only [Bool.and_eq_true, decide_eq_true_eq] at h
  omega

set_option maxHeartbeats 1000000 in
theorem stringEnd_one_esc (s : ByteArray) (i : Nat) (hi : i < s.size) (hs : s.size ≤ 1048576) (hq : byteAt s i = 34 ∨ byteAt s i = 39) (hm : multi (byteAt s) s.size i = false) (hesc : (byteAt s i == 34) = true) (w : World) :
    Calls Try.prog 14 #[.string s, .int .i64 (i : Int)] w fun e w' => e = .returned (.int .i64 (strEnd (byteAt s) s.size i : Nat)) ∧ Below w.heap.size w w' := by
  have hb := byteAt_eq s i hi
  have hcv := fun w => conv_quote (byteAt s i) hq w
  have HP : Hid (∀ w, Calls Try.prog 16 #[.string (s.extract i s.size), .string (three (byteAt s i))] w fun e w' => e = .returned (.bool false) ∧ w' = w) := fun w => by
    rw [← hm, ← prefix_multi s i hi hq]; exact Try.strings_HasPrefix _ _ w
  have HR : Hid (strEnd (byteAt s) s.size i = end1 (byteAt s) s.size true (byteAt s i) (i + 1)) := by
    show strEnd _ _ _ = _
    unfold strEnd
    rw [hm, hesc]; rfl
  have h1 : (i : Int) < (s.size : Int) := by omega
  have h2 : (s.size : Int) ≤ 1048576 := by omega
  have h3 : i ≤ s.size := by omega
  clear hm
  generalize hqq : byteAt s i = q at *
  have HQ : Hid (byteAt s i = q) := hqq
  clear hqq
  generalize strEnd (byteAt s) s.size i = R at *
  go_enter Try.func14, Try.ntmps14
  go_wp2
  refine wp_region_Hw (S := fun w' => Below w.heap.size w w') [(0, true), (1, true), (2, true), (3, true), (4, true), (5, false), (6, false), (7, true)] (by kernel_rfl) (by kernel_rfl) rfl (by kernel_rfl) (fun _ _ _ _ h => h) (Below.refl _ _).drew (fun hHeld => ?_)
  simp only [pick, List.map_cons, List.map_nil, Array.getD_eq_getD_getElem?, List.getElem?_toArray, List.getElem?_cons_zero, List.getElem?_cons_succ, Option.getD_some]
  refine hw_move _ rfl rfl ?_
  simp only [Act.put, Act.eval, List.setIfInBounds_toArray, List.set_cons_zero, List.set_cons_succ, Array.getD_eq_getD_getElem?, List.getElem?_toArray, List.getElem?_cons_zero, List.getElem?_cons_succ, Option.getD_some]
  refine hw_move _ rfl rfl ?_
  simp only [Act.put, Act.eval, List.setIfInBounds_toArray, List.set_cons_zero, List.set_cons_succ, Array.getD_eq_getD_getElem?, List.getElem?_toArray, List.getElem?_cons_zero, List.getElem?_cons_succ, Option.getD_some]
  refine hw_ex rfl ?_; apply Exists.intro; refine ⟨fun w hSw => ?_, ?_⟩; (go_simp; first | done | (with_reducible rfl))
  simp only [Act.put, Act.eval, List.setIfInBounds_toArray, List.set_cons_zero, List.set_cons_succ, Array.getD_eq_getD_getElem?, List.getElem?_toArray, List.getElem?_cons_zero, List.getElem?_cons_succ, Option.getD_some]
  refine hw_move _ rfl rfl ?_
  simp only [Act.put, Act.eval, List.setIfInBounds_toArray, List.set_cons_zero, List.set_cons_succ, Array.getD_eq_getD_getElem?, List.getElem?_toArray, List.getElem?_cons_zero, List.getElem?_cons_succ, Option.getD_some]
  refine hw_ex rfl ?_; apply Exists.intro; refine ⟨fun w hSw => ?_, ?_⟩; (go_simp; first | done | (with_reducible rfl))
  simp only [Act.put, Act.eval, List.setIfInBounds_toArray, List.set_cons_zero, List.set_cons_succ, Array.getD_eq_getD_getElem?, List.getElem?_toArray, List.getElem?_cons_zero, List.getElem?_cons_succ, Option.getD_some]
  refine hw_do rfl (fun K hK => ?_)
  go_wp2_with (go_at_call 17; refine (repeat3 q _).mono ?_; rintro e w1 ⟨rfl, hb1⟩)
  have hb1' : Below w.heap.size w w1 := ((Below.refl _ _).drew).trans hb1
  refine hK.out _ _ hb1' (fun hHeld => ?_)
  clear hK K hb1
  refine hw_do rfl (fun K hK => ?_)
  go_wp2_with (go_at_call 16; refine (HP.out _).mono ?_; rintro e w2 ⟨rfl, rfl⟩)
  refine hK.out _ _ hb1' (fun hHeld => ?_)
  clear hK K
  refine hw_ex rfl ?_; apply Exists.intro; refine ⟨fun w hSw => ?_, ?_⟩; (go_simp; first | done | (with_reducible rfl))
  simp only [Act.put, Act.eval, List.setIfInBounds_toArray, List.set_cons_zero, List.set_cons_succ, Array.getD_eq_getD_getElem?, List.getElem?_toArray, List.getElem?_cons_zero, List.getElem?_cons_succ, Option.getD_some]
  refine hw_nil ?_
  clear hcv HP hb
  go_wp2
  go_loop [8] (fun j => ∃ k : Nat, k ≤ s.size + 1 ∧ j = .int .i64 k ∧ end1 (byteAt s) s.size true q (min k s.size) = R) (fun j => s.size + 1 - (intOf j).toNat)
  case atStart => exact ⟨i + 1, by omega, by go_num, by rw [show min (i + 1) s.size = i + 1 from by omega]; exact HR.out.symm⟩
  case round =>
    obtain ⟨k, hk, rfl, hrel⟩ := hrel
    by_cases hlt : k < s.size
    · have HKm : Hid (end1 (byteAt s) s.size true q k = R) := by rw [show min k s.size = k from by omega] at hrel; exact hrel
      clear hrel
      have hlt' : (k : Int) < (s.size : Int) := by omega
      have hb := byteAt_eq s k hlt
      have c0 := byteAt_lo s k
      have c1 := byteAt_hi s k
      obtain ⟨c, hbc⟩ : ∃ c, byteAt s k = c := ⟨_, rfl⟩
      rw [hbc] at hb c0 c1
      by_cases h9 : c = 92
      · -- an escape
        have ht : (c == 92) = true := by simpa using h9
        have HK' := HKm.out
        have HE : Hid (end1 (byteAt s) s.size true q (min (k + 2) s.size) = R) := by rw [← end1_skip _ _ _ _ hlt rfl (hbc.trans h9)]; exact HK'
        clear h9 hbc HK'
        go_wp2
        go_round
        case rel => exact ⟨k + 2, by omega, by go_num, HE.out⟩
        case measure => simp [intOf]; omega
      · have ht9 : (c == 92) = false := by simpa using h9
        have hne : ¬ (true = true ∧ byteAt s k = 92) := fun hh => h9 (hbc.symm.trans hh.2)
        clear h9
        by_cases hcq : c = q
        · have htq : (c == q) = true := by simpa using hcq
          have HK' := HKm.out
          have HE : Hid (R = k + 1) := by show R = k + 1; rw [← HK', end1_quote _ _ _ _ hlt hne (hbc.trans hcq)]
          clear hcq hbc HK'
          go_wp2
          go_ret
          exact ⟨ret_int (by show ((k : Int) + 1) = _; have := HE.out; omega), hb1'⟩
        · have htq : (c == q) = false := by simpa using hcq
          have HK' := HKm.out
          have HE : Hid (end1 (byteAt s) s.size true q (min (k + 1) s.size) = R) := by rw [show min (k + 1) s.size = k + 1 from by omega, ← end1_next _ _ _ _ hlt hne (fun hh => hcq (hbc.symm.trans hh))]; exact HK'
          clear hcq hbc HK'
          go_wp2
          go_round
          case rel => exact ⟨k + 1, by omega, by go_num, HE.out⟩
          case measure => simp [intOf]; omega
    · have HE : Hid (R = s.size) := by show R = s.size; rw [← hrel, show min k s.size = s.size from by omega, end1_end _ _ _ _ (Nat.le_refl _)]
      clear hrel
      go_wp2
      go_ret
      exact ⟨ret_int (by rw [HE.out]), hb1'⟩

set_option maxHeartbeats 1000000 in
theorem stringEnd_one_lit (s : ByteArray) (i : Nat) (hi : i < s.size) (hs : s.size ≤ 1048576) (hq : byteAt s i = 34 ∨ byteAt s i = 39) (hm : multi (byteAt s) s.size i = false) (hesc : (byteAt s i == 34) = false) (w : World) :
    Calls Try.prog 14 #[.string s, .int .i64 (i : Int)] w fun e w' => e = .returned (.int .i64 (strEnd (byteAt s) s.size i : Nat)) ∧ Below w.heap.size w w' := by
  have hb := byteAt_eq s i hi
  have hcv := fun w => conv_quote (byteAt s i) hq w
  have HP : Hid (∀ w, Calls Try.prog 16 #[.string (s.extract i s.size), .string (three (byteAt s i))] w fun e w' => e = .returned (.bool false) ∧ w' = w) := fun w => by
    rw [← hm, ← prefix_multi s i hi hq]; exact Try.strings_HasPrefix _ _ w
  have HR : Hid (strEnd (byteAt s) s.size i = end1 (byteAt s) s.size false (byteAt s i) (i + 1)) := by
    show strEnd _ _ _ = _
    unfold strEnd
    rw [hm, hesc]; rfl
  have h1 : (i : Int) < (s.size : Int) := by omega
  have h2 : (s.size : Int) ≤ 1048576 := by omega
  have h3 : i ≤ s.size := by omega
  clear hm
  generalize hqq : byteAt s i = q at *
  have HQ : Hid (byteAt s i = q) := hqq
  clear hqq
  generalize strEnd (byteAt s) s.size i = R at *
  go_enter Try.func14, Try.ntmps14
  go_wp2
  refine wp_region_Hw (S := fun w' => Below w.heap.size w w') [(0, true), (1, true), (2, true), (3, true), (4, true), (5, false), (6, false), (7, true)] (by kernel_rfl) (by kernel_rfl) rfl (by kernel_rfl) (fun _ _ _ _ h => h) (Below.refl _ _).drew (fun hHeld => ?_)
  simp only [pick, List.map_cons, List.map_nil, Array.getD_eq_getD_getElem?, List.getElem?_toArray, List.getElem?_cons_zero, List.getElem?_cons_succ, Option.getD_some]
  refine hw_move _ rfl rfl ?_
  simp only [Act.put, Act.eval, List.setIfInBounds_toArray, List.set_cons_zero, List.set_cons_succ, Array.getD_eq_getD_getElem?, List.getElem?_toArray, List.getElem?_cons_zero, List.getElem?_cons_succ, Option.getD_some]
  refine hw_move _ rfl rfl ?_
  simp only [Act.put, Act.eval, List.setIfInBounds_toArray, List.set_cons_zero, List.set_cons_succ, Array.getD_eq_getD_getElem?, List.getElem?_toArray, List.getElem?_cons_zero, List.getElem?_cons_succ, Option.getD_some]
  refine hw_ex rfl ?_; apply Exists.intro; refine ⟨fun w hSw => ?_, ?_⟩; (go_simp; first | done | (with_reducible rfl))
  simp only [Act.put, Act.eval, List.setIfInBounds_toArray, List.set_cons_zero, List.set_cons_succ, Array.getD_eq_getD_getElem?, List.getElem?_toArray, List.getElem?_cons_zero, List.getElem?_cons_succ, Option.getD_some]
  refine hw_move _ rfl rfl ?_
  simp only [Act.put, Act.eval, List.setIfInBounds_toArray, List.set_cons_zero, List.set_cons_succ, Array.getD_eq_getD_getElem?, List.getElem?_toArray, List.getElem?_cons_zero, List.getElem?_cons_succ, Option.getD_some]
  refine hw_ex rfl ?_; apply Exists.intro; refine ⟨fun w hSw => ?_, ?_⟩; (go_simp; first | done | (with_reducible rfl))
  simp only [Act.put, Act.eval, List.setIfInBounds_toArray, List.set_cons_zero, List.set_cons_succ, Array.getD_eq_getD_getElem?, List.getElem?_toArray, List.getElem?_cons_zero, List.getElem?_cons_succ, Option.getD_some]
  refine hw_do rfl (fun K hK => ?_)
  go_wp2_with (go_at_call 17; refine (repeat3 q _).mono ?_; rintro e w1 ⟨rfl, hb1⟩)
  have hb1' : Below w.heap.size w w1 := ((Below.refl _ _).drew).trans hb1
  refine hK.out _ _ hb1' (fun hHeld => ?_)
  clear hK K hb1
  refine hw_do rfl (fun K hK => ?_)
  go_wp2_with (go_at_call 16; refine (HP.out _).mono ?_; rintro e w2 ⟨rfl, rfl⟩)
  refine hK.out _ _ hb1' (fun hHeld => ?_)
  clear hK K
  refine hw_ex rfl ?_; apply Exists.intro; refine ⟨fun w hSw => ?_, ?_⟩; (go_simp; first | done | (with_reducible rfl))
  simp only [Act.put, Act.eval, List.setIfInBounds_toArray, List.set_cons_zero, List.set_cons_succ, Array.getD_eq_getD_getElem?, List.getElem?_toArray, List.getElem?_cons_zero, List.getElem?_cons_succ, Option.getD_some]
  refine hw_nil ?_
  clear hcv HP hb
  go_wp2
  go_loop [8] (fun j => ∃ k : Nat, k ≤ s.size + 1 ∧ j = .int .i64 k ∧ end1 (byteAt s) s.size false q (min k s.size) = R) (fun j => s.size + 1 - (intOf j).toNat)
  case atStart => exact ⟨i + 1, by omega, by go_num, by rw [show min (i + 1) s.size = i + 1 from by omega]; exact HR.out.symm⟩
  case round =>
    obtain ⟨k, hk, rfl, hrel⟩ := hrel
    by_cases hlt : k < s.size
    · have HKm : Hid (end1 (byteAt s) s.size false q k = R) := by rw [show min k s.size = k from by omega] at hrel; exact hrel
      clear hrel
      have hlt' : (k : Int) < (s.size : Int) := by omega
      have hb := byteAt_eq s k hlt
      have c0 := byteAt_lo s k
      have c1 := byteAt_hi s k
      obtain ⟨c, hbc⟩ : ∃ c, byteAt s k = c := ⟨_, rfl⟩
      rw [hbc] at hb c0 c1
      have hne : ¬ (false = true ∧ byteAt s k = 92) := fun hh => absurd hh.1 (by decide)
      by_cases hcq : c = q
      · have htq : (c == q) = true := by simpa using hcq
        have HK' := HKm.out
        have HE : Hid (R = k + 1) := by show R = k + 1; rw [← HK', end1_quote _ _ _ _ hlt hne (hbc.trans hcq)]
        clear hcq hbc HK'
        go_wp2
        go_ret
        exact ⟨ret_int (by show ((k : Int) + 1) = _; have := HE.out; omega), hb1'⟩
      · have htq : (c == q) = false := by simpa using hcq
        have HK' := HKm.out
        have HE : Hid (end1 (byteAt s) s.size false q (min (k + 1) s.size) = R) := by rw [show min (k + 1) s.size = k + 1 from by omega, ← end1_next _ _ _ _ hlt hne (fun hh => hcq (hbc.symm.trans hh))]; exact HK'
        clear hcq hbc HK'
        go_wp2
        go_round
        case rel => exact ⟨k + 1, by omega, by go_num, HE.out⟩
        case measure => simp [intOf]; omega
    · have HE : Hid (R = s.size) := by show R = s.size; rw [← hrel, show min k s.size = s.size from by omega, end1_end _ _ _ _ (Nat.le_refl _)]
      clear hrel
      go_wp2
      go_ret
      exact ⟨ret_int (by rw [HE.out]), hb1'⟩
end Go.Proofs.Qxb6603928a
