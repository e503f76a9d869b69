import Derived.Test.Qxb6603928aRows
import Derived.WalkKit
import Derived.ProofKit
import Derived.OpenShut
import Derived.ShutString
import Derived.WalkSpells
import Derived.WalkLawsBesides
namespace Go.Proofs.Qxb6603928a
open Go.ChangeShapes Go.WideShapes Go.ChangeAt Go.RowKit

/-- Byte number k of a text. -/
def byteAt (s : ByteArray) (k : Nat) : Int := ((s.data.getD k 0).toNat : Int)
theorem byteAt_lo (s : ByteArray) (k : Nat) : 0 ≤ byteAt s k := by unfold byteAt; omega
theorem byteAt_hi (s : ByteArray) (k : Nat) : byteAt s k ≤ 255 := by
  unfold byteAt
  have := (s.data.getD k 0).toNat_lt
  omega
theorem byteAt_eq (s : ByteArray) (k : Nat) (h : k < s.size) : ((s[k]'h).toNat : Int) = byteAt s k := by
  unfold byteAt
  have : s.data.getD k 0 = s[k]'h := by
    show s.data.getD k 0 = s.data[k]'h
    rw [Array.getD_eq_getD_getElem?, Array.getElem?_eq_getElem h]; rfl
  rw [this]


theorem ret_int {k : IntKind} {a b : Int} (h : a = b) : Ending.returned (.int k a) = .returned (.int k b) := by rw [h]
end Go.Proofs.Qxb6603928a
