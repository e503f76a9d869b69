import Derived.Test.Qxb6603928aValid
namespace Go.Proofs.Qxb6603928a
open Go.ChangeShapes Go.WideShapes Go.ChangeAt Go.RowKit

theorem bytes11_no (s : ByteArray) (hm : s.size ≤ maxLen) (h : 1048576 < s.size) (w : World) :
    Calls Try.prog 11 #[.string s] w fun e w' => e = .returned (.bool false) ∧ w' = w := by
  unfold maxLen at hm
  have h' : (1048576 : Int) < (s.size : Int) := by omega
  go_enter Try.func11, Try.ntmps11
  go_wp2
  go_ret
  exact ⟨rfl, rfl⟩

theorem bytes11_yes (s : ByteArray) (h : s.size ≤ 1048576) (w : World) :
    Calls Try.prog 11 #[.string s] w fun e w' => e = .returned (.bool true) ∧ w' = w := by
  have h' : (s.size : Int) ≤ 1048576 := by omega
  go_enter Try.func11, Try.ntmps11
  go_wp2
  go_ret
  exact ⟨rfl, rfl⟩

theorem zzvalid_any (s : ByteArray) (hs : s.size ≤ 1048576) (w : World) :
    Calls Try.prog 13 #[.string s] w fun e w' => e = .returned (.bool (validB s)) ∧ Below w.heap.size w w' := by
  go_enter Try.func13, Try.ntmps13
  go_wp2_with (go_at_call 15; refine (valid_any s hs _).mono ?_; rintro e w' ⟨rfl, hb⟩)
  go_ret
  exact ⟨rfl, hb⟩

theorem want_eq (s : ByteArray) : validB s = (decide ((0 : Int) < (s.size : Int)) && okTo s s.size) := by
  unfold validB
  congr 1
  simp

set_option maxHeartbeats 1000000 in
theorem valid_walk (s : ByteArray) (hm : s.size ≤ maxLen) (w : World) :
    Calls Try.prog 5 #[.string s] w fun e w' => e = .returned (.bool true) ∧ Below w.heap.size w w' := by
  by_cases h : s.size ≤ 1048576
  · have h' : (s.size : Int) ≤ 1048576 := by omega
    go_enter Try.func5, Try.ntmps5
    go_wp2_with (go_at_call 11; refine (bytes11_yes s h _).mono ?_; rintro e w' ⟨rfl, rfl⟩)
    go_loop [3, 4] (fun v i => ∃ k : Nat, k ≤ s.size ∧ i = .int .i64 k ∧ v = .bool (decide ((0 : Int) < (s.size : Int)) && okTo s k)) (fun _ i => s.size - (intOf i).toNat)
    case atStart => exact ⟨0, Nat.zero_le _, rfl, by simp [okTo]⟩
    case round =>
      obtain ⟨k, hk, rfl, rfl⟩ := hrel
      by_cases hlt : k < s.size
      · have hb := byteAt_eq s k hlt
        have c0 := byteAt_lo s k
        have c1 := byteAt_hi s k
        have HO : Hid (okTo s (k + 1) = (okTo s k && okB (byteAt s k))) := rfl
        generalize hbc : byteAt s k = c at *
        have HB : Hid (byteAt s k = c) := hbc
        clear hbc
        cases hok : okB c with
        | true =>
          go_wp2_with (go_at_call 12; refine (alphabet_any c c0 c1 _).mono ?_; rintro e w' ⟨rfl, rfl⟩)
          go_round
          case rel => exact ⟨k + 1, by omega, by go_num, by rw [HO.out, hok]; simp⟩
          case measure => simp [intOf]; omega
        | false =>
          go_wp2_with (go_at_call 12; refine (alphabet_any c c0 c1 _).mono ?_; rintro e w' ⟨rfl, rfl⟩)
          go_round
          case rel => exact ⟨k + 1, by omega, by go_num, by rw [HO.out, hok]; simp⟩
          case measure => simp [intOf]; omega
      · have hke : k = s.size := by omega
        have HE : Hid ((decide ((0 : Int) < (s.size : Int)) && okTo s k) = validB s) := by rw [hke]; exact (want_eq s).symm
        clear hke
        generalize (decide ((0 : Int) < (s.size : Int)) && okTo s k) = v at *
        have hv : v = validB s := HE.out
        subst hv
        clear HE
        go_wp2_with (go_at_call 13; refine (zzvalid_any s h _).mono ?_; rintro e w' ⟨rfl, hb⟩)
        go_ret
        exact ⟨by simp, hb⟩
  · go_enter Try.func5, Try.ntmps5
    go_wp2_with (go_at_call 11; refine (bytes11_no s hm (by omega) _).mono ?_; rintro e w' ⟨rfl, rfl⟩)
    go_ret
    exact ⟨rfl, Below.refl _ _⟩
end Go.Proofs.Qxb6603928a
