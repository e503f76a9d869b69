import Derived.Test.Qxb6603928aModel
namespace Go.Proofs.Qxb6603928a
open Go.ChangeShapes Go.WideShapes Go.ChangeAt Go.RowKit
set_option linter.unusedSimpArgs false

theorem bytes6_no (s : ByteArray) (i : Int) (hm : s.size ≤ maxLen) (h : 1048576 < s.size) (w : World) :
    Calls Try.prog 6 #[.string s, .int .i64 i] w fun e w' => e = .returned (.bool false) ∧ w' = w := by
  unfold maxLen at hm
  have h' : (1048576 : Int) < (s.size : Int) := by omega
  go_enter Try.func6, Try.ntmps6
  go_wp2
  go_ret
  exact ⟨rfl, rfl⟩
theorem bytes6_yes (s : ByteArray) (i : Int) (h : s.size ≤ 1048576) (w : World) :
    Calls Try.prog 6 #[.string s, .int .i64 i] w fun e w' => e = .returned (.bool true) ∧ w' = w := by
  have h' : (s.size : Int) ≤ 1048576 := by omega
  go_enter Try.func6, Try.ntmps6
  go_wp2
  go_ret
  exact ⟨rfl, rfl⟩

theorem matches_walk_out (s : ByteArray) (a : Int) (hm : s.size ≤ maxLen) (w : World) (h : 1048576 < s.size ∨ (s.size ≤ 1048576 ∧ (a < 0 ∨ (s.size : Int) ≤ a))) :
    Calls Try.prog 3 #[.string s, .int .i64 a] w fun e w' => e = .returned (.bool true) ∧ Below w.heap.size w w' := by
  rcases h with h | ⟨h, ha⟩
  · go_enter Try.func3, Try.ntmps3
    go_wp2_with (go_at_call 6; refine (bytes6_no s a hm h _).mono ?_; rintro e w' ⟨rfl, rfl⟩)
    go_ret
    exact ⟨rfl, Below.refl _ _⟩
  · have h' : (s.size : Int) ≤ 1048576 := by omega
    rcases ha with ha | ha
    · go_enter Try.func3, Try.ntmps3
      go_wp2_with (go_at_call 6; refine (bytes6_yes s a h _).mono ?_; rintro e w' ⟨rfl, rfl⟩)
      go_ret
      exact ⟨rfl, Below.refl _ _⟩
    · have ha2 : ¬ a < 0 := by omega
      go_enter Try.func3, Try.ntmps3
      go_wp2_with (go_at_call 6; refine (bytes6_yes s a h _).mono ?_; rintro e w' ⟨rfl, rfl⟩)
      go_ret
      exact ⟨rfl, Below.refl _ _⟩

theorem matches_walk_no (s : ByteArray) (i : Nat) (h : s.size ≤ 1048576) (hi : i < s.size) (hq : isQ (byteAt s i) = false) (w : World) :
    Calls Try.prog 3 #[.string s, .int .i64 (i : Int)] w fun e w' => e = .returned (.bool true) ∧ Below w.heap.size w w' := by
  have hb := byteAt_eq s i hi
  have h' : (s.size : Int) ≤ 1048576 := by omega
  have hi' : (i : Int) < (s.size : Int) := by omega
  generalize byteAt s i = q at *
  go_enter Try.func3, Try.ntmps3
  go_wp2_with (first | (go_at_call 6; refine (bytes6_yes s i h _).mono ?_; rintro e w' ⟨rfl, rfl⟩) | (go_at_call 7; refine (isQuote_any q _).mono ?_; rintro e w' ⟨rfl, rfl⟩))
  go_ret
  exact ⟨rfl, Below.refl _ _⟩

theorem matches_walk_yes (s : ByteArray) (i : Nat) (h : s.size ≤ 1048576) (hi : i < s.size) (hq : byteAt s i = 34 ∨ byteAt s i = 39) (w : World) :
    Calls Try.prog 3 #[.string s, .int .i64 (i : Int)] w fun e w' => e = .returned (.bool true) ∧ Below w.heap.size w w' := by
  have hQ : isQ (byteAt s i) = true := by unfold isQ; rcases hq with e | e <;> rw [e] <;> rfl
  have HZ : Hid (∀ w, Calls Try.prog 8 #[.string s, .int .i64 (i : Int)] w fun e w' => e = .returned (.int .i64 (strEnd (byteAt s) s.size i : Nat)) ∧ Below w.heap.size w w') := fun w => zzEnd_any s i hi h hq w
  have HM : Hid (∀ w, Calls Try.prog 9 #[.string s, .int .i64 (i : Int)] w fun e w' => e = .returned (.int .i64 (strEnd (byteAt s) s.size i : Nat)) ∧ w' = w) := fun w => model_any s i hi h hq w
  generalize strEnd (byteAt s) s.size i = R at *
  have hb := byteAt_eq s i hi
  have h' : (s.size : Int) ≤ 1048576 := by omega
  have hi' : (i : Int) < (s.size : Int) := by omega
  clear hq
  generalize byteAt s i = q at *
  go_enter Try.func3, Try.ntmps3
  go_wp2_with (first | (go_at_call 6; refine (bytes6_yes s i h _).mono ?_; rintro e w' ⟨rfl, rfl⟩) | (go_at_call 7; refine (isQuote_any q _).mono ?_; rintro e w' ⟨rfl, rfl⟩) | (go_at_call 8; refine (HZ.out _).mono ?_; rintro e w' ⟨rfl, hbel⟩) | (go_at_call 9; refine (HM.out _).mono ?_; rintro e w2 ⟨rfl, rfl⟩))
  go_ret
  exact ⟨by simp, hbel⟩

theorem matches_walk (s : ByteArray) (a : Int) (hm : s.size ≤ maxLen) (w : World) :
    Calls Try.prog 3 #[.string s, .int .i64 a] w fun e w' => e = .returned (.bool true) ∧ Below w.heap.size w w' := by
  by_cases h : s.size ≤ 1048576
  · by_cases ha : 0 ≤ a ∧ a < (s.size : Int)
    · obtain ⟨i, rfl⟩ := Int.eq_ofNat_of_zero_le ha.1
      have hi : i < s.size := by omega
      cases hq : isQ (byteAt s i) with
      | false => exact matches_walk_no s i h hi hq w
      | true =>
        refine matches_walk_yes s i h hi ?_ w
        unfold isQ at hq
        simpa using hq
    · exact matches_walk_out s a hm w (Or.inr ⟨h, by omega⟩)
  · exact matches_walk_out s a hm w (Or.inl (by omega))
end Go.Proofs.Qxb6603928a
