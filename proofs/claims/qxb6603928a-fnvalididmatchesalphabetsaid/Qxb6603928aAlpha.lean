import Derived.Test.Qxb6603928aRows
import Derived.WalkKit
import Derived.ProofKit
import Derived.OpenShut
import Derived.ShutString
import Derived.WalkSpells
import Derived.WalkLawsBesides
namespace Go.Proofs.Qxb6603928a
open Go.ChangeShapes Go.WideShapes Go.ChangeAt Go.RowKit

/-- The 63 bytes of the alphabet. -/
def alphaList : List UInt8 := [97, 98, 99, 100, 101, 102, 103, 104, 105, 106, 107, 108, 109, 110, 111, 112, 113, 114, 115, 116, 117, 118, 119, 120, 121, 122, 65, 66, 67, 68, 69, 70, 71, 72, 73, 74, 75, 76, 77, 78, 79, 80, 81, 82, 83, 84, 85, 86, 87, 88, 89, 90, 48, 49, 50, 51, 52, 53, 54, 55, 56, 57, 45]
def alpha : ByteArray := ⟨alphaList.toArray⟩
theorem alpha_size : alpha.size = 63 := by decide +kernel

/-- An ASCII letter, a digit or a hyphen. -/
def okB (c : Int) : Bool := decide (97 ≤ c ∧ c ≤ 122) || decide (65 ≤ c ∧ c ≤ 90) || decide (48 ≤ c ∧ c ≤ 57) || decide (c = 45)

theorem ok_alpha (k : Nat) (h : k < alpha.size) : okB (alpha[k].toNat : Int) = true := by
  have key : ∀ k : Fin 63, okB ((alpha[k.val]'(by rw [alpha_size]; exact k.isLt)).toNat : Int) = true := by decide +kernel
  exact key ⟨k, by rw [alpha_size] at h; exact h⟩

theorem alpha_ok (c : Int) (h0 : 0 ≤ c) (h1 : c ≤ 255) (hc : okB c = true) : ∃ (k : Nat) (h : k < alpha.size), (alpha[k].toNat : Int) = c := by
  obtain ⟨n, rfl⟩ := Int.eq_ofNat_of_zero_le h0
  have key : ∀ n : Fin 256, okB ((n.val : Nat) : Int) = true → ∃ k : Fin 63, ((alpha[k.val]'(by rw [alpha_size]; exact k.isLt)).toNat : Int) = ((n.val : Nat) : Int) := by decide +kernel
  obtain ⟨k, hk⟩ := key ⟨n, by omega⟩ hc
  exact ⟨k.val, by rw [alpha_size]; exact k.isLt, hk⟩

theorem not_ok (c : Int) (h0 : 0 ≤ c) (h1 : c ≤ 255) (h : ∀ (k : Nat) (h : k < alpha.size), (alpha[k].toNat : Int) ≠ c) : okB c = false := by
  cases hb : okB c with
  | false => rfl
  | true => obtain ⟨k, hk, e⟩ := alpha_ok c h0 h1 hb; exact absurd e (h k hk)

set_option maxRecDepth 100000 in
set_option maxHeartbeats 400000 in
theorem alphabet_any (c : Int) (h0 : 0 ≤ c) (h1 : c ≤ 255) (w : World) :
    Calls Try.prog 12 #[.int .u8 c] w fun e w' => e = .returned (.bool (okB c)) ∧ w' = w := by
  go_enter Try.func12, Try.ntmps12
  go_wp2
  go_loop [3] (fun i => ∃ k : Nat, k ≤ 63 ∧ i = .int .i64 k ∧ ∀ (j : Nat) (h : j < alpha.size), j < k → (alpha[j].toNat : Int) ≠ c) (fun i => 63 - (intOf i).toNat)
  case atStart => exact ⟨0, Nat.zero_le _, rfl, fun j _ hj => absurd hj (Nat.not_lt_zero _)⟩
  case round =>
    obtain ⟨k, hk, rfl, hall⟩ := hrel
    have HA : Hid (∀ (j : Nat) (h : j < alpha.size), j < k → (alpha[j].toNat : Int) ≠ c) := hall
    clear hall
    by_cases hlt : k < 63
    · have hka : k < alpha.size := by rw [alpha_size]; exact hlt
      go_wp2
      · have ht : (((alpha[k]'hka).toNat : Int) == c) = true := by assumption
        have HE : okB c = true := by have := ok_alpha k hka; rw [beq_iff_eq.1 ht] at this; exact this
        go_ret
        exact ⟨by rw [HE]; rfl, rfl⟩
      · have ht : (((alpha[k]'hka).toNat : Int) == c) = false := by assumption
        go_round
        case rel => exact ⟨k + 1, by omega, by go_num, fun j hj hjk => by
          rcases Nat.lt_succ_iff_lt_or_eq.1 hjk with h2 | h2
          · exact HA.out j hj h2
          · subst h2; exact beq_eq_false_iff_ne.1 ht⟩
        case measure => simp [intOf]; omega
    · have HE : Hid (okB c = false) := not_ok c h0 h1 fun j hj => HA.out j hj (by rw [alpha_size] at hj; omega)
      go_wp2
      go_ret
      exact ⟨by rw [HE.out]; rfl, rfl⟩
end Go.Proofs.Qxb6603928a
