/-
  No cell of these rows narrows 'for every input' (looked for: loops, veiled, ifaces, maps, wideKeys, modest, calm, conditions, laid).
  DERIVED. THE GIVEN ROWS OF THIS SEAT. 5 by the template 'for every input the law returns true; each argument reads behind the call as it read before'; 0 by the template 'total and deterministic' (their statements: Qxb6603900aTotals.lean).
  GIVEN WITH THE SEED: the statements are not yours to turn. If you find one false, say at which input.
  Laid BY PROGRAM, IN A SANDBOX (cutbox-rows.mjs): the forced cells as the released guide's own fill.sh prints them over the translation ae618c53ed4c4255… (all of the seat's roots in one cut). By AI agents, Wed Nov 11 2026. No macro, syntax, notation, axiom, sorry.
-/
import Derived.Test.Qxb6603900aChecked
import GoSem.Claim
import GoSem.ClaimJoined
import GoSem.ClaimMapViews
import Derived.JoinedTies
import Derived.KernelRfl
namespace Go.Proofs.Qxb6603900a
/- THE CELL 'sum', in the pinned program and in every row, IS THE sha256 OF THE DUMP (.gsa) THAT Qxb6603900aProg.lean LOADS. Nothing in Lean hashes anything: it is a label: what it is worth is what the hold of that sum in a sandbox is worth. -/
noncomputable def Try.pinned : Pinned := { name := "qxb6603900a", sum := "ae618c53ed4c4255975e3a67a9868bdcfa51ea410bc26f1dda97907e8c229801", checked := Try.checked }
namespace Rows
def none {H : Type} : Left H := { results := [], args := [] }

/-- 'zzlaws_root_b1.FnSplitMatchesEvenDealingModel': WHATEVER THE INPUT: true; the input reads as it did. -/
def fnSplitMatchesEvenDealingModelSpec : ChangeSpec := { name := "fnSplitMatchesEvenDealingModel", fn := fun _ => fun
  | [d1, d2] => { results := [.lit (.bool true)], args := [d1, d2] }
  | _ => none }
def fnSplitMatchesEvenDealingModelRow : OpenClaim := { program := "qxb6603900a", sum := "ae618c53ed4c4255975e3a67a9868bdcfa51ea410bc26f1dda97907e8c229801", func := "example.com/ironlattice/ironlattice/zzlaws_root_b1.FnSplitMatchesEvenDealingModel", spec := "fnSplitMatchesEvenDealingModel", apart := false }
def FnSplitMatchesEvenDealingModelSaid : Prop := fnSplitMatchesEvenDealingModelRow.holds Try.pinned (OpenSpec.ofChange fnSplitMatchesEvenDealingModelSpec)

/-- ITS FALSE NEIGHBOUR: 'it returns false'. Refute it at one input. -/
def fnSplitMatchesEvenDealingModelWrong : ChangeSpec := { name := "fnSplitMatchesEvenDealingModel", fn := fun _ => fun
  | [d1, d2] => { results := [.lit (.bool false)], args := [d1, d2] }
  | _ => none }
def FnSplitMatchesEvenDealingModelWrongFalsely : Prop := fnSplitMatchesEvenDealingModelRow.holds Try.pinned (OpenSpec.ofChange fnSplitMatchesEvenDealingModelWrong)

/-- 'zzlaws_root_b1.FnSplitPartsRejoinToWhole': WHATEVER THE INPUT: true; the input reads as it did. -/
def fnSplitPartsRejoinToWholeSpec : ChangeSpec := { name := "fnSplitPartsRejoinToWhole", fn := fun _ => fun
  | [d1, d2] => { results := [.lit (.bool true)], args := [d1, d2] }
  | _ => none }
def fnSplitPartsRejoinToWholeRow : OpenClaim := { program := "qxb6603900a", sum := "ae618c53ed4c4255975e3a67a9868bdcfa51ea410bc26f1dda97907e8c229801", func := "example.com/ironlattice/ironlattice/zzlaws_root_b1.FnSplitPartsRejoinToWhole", spec := "fnSplitPartsRejoinToWhole", apart := false }
def FnSplitPartsRejoinToWholeSaid : Prop := fnSplitPartsRejoinToWholeRow.holds Try.pinned (OpenSpec.ofChange fnSplitPartsRejoinToWholeSpec)

/-- ITS FALSE NEIGHBOUR: 'it returns false'. Refute it at one input. -/
def fnSplitPartsRejoinToWholeWrong : ChangeSpec := { name := "fnSplitPartsRejoinToWhole", fn := fun _ => fun
  | [d1, d2] => { results := [.lit (.bool false)], args := [d1, d2] }
  | _ => none }
def FnSplitPartsRejoinToWholeWrongFalsely : Prop := fnSplitPartsRejoinToWholeRow.holds Try.pinned (OpenSpec.ofChange fnSplitPartsRejoinToWholeWrong)

/-- 'zzlaws_root_b1.FnSplitRunsAreAsEvenAsCanBe': WHATEVER THE INPUT: true; the input reads as it did. -/
def fnSplitRunsAreAsEvenAsCanBeSpec : ChangeSpec := { name := "fnSplitRunsAreAsEvenAsCanBe", fn := fun _ => fun
  | [d1, d2] => { results := [.lit (.bool true)], args := [d1, d2] }
  | _ => none }
def fnSplitRunsAreAsEvenAsCanBeRow : OpenClaim := { program := "qxb6603900a", sum := "ae618c53ed4c4255975e3a67a9868bdcfa51ea410bc26f1dda97907e8c229801", func := "example.com/ironlattice/ironlattice/zzlaws_root_b1.FnSplitRunsAreAsEvenAsCanBe", spec := "fnSplitRunsAreAsEvenAsCanBe", apart := false }
def FnSplitRunsAreAsEvenAsCanBeSaid : Prop := fnSplitRunsAreAsEvenAsCanBeRow.holds Try.pinned (OpenSpec.ofChange fnSplitRunsAreAsEvenAsCanBeSpec)

/-- ITS FALSE NEIGHBOUR: 'it returns false'. Refute it at one input. -/
def fnSplitRunsAreAsEvenAsCanBeWrong : ChangeSpec := { name := "fnSplitRunsAreAsEvenAsCanBe", fn := fun _ => fun
  | [d1, d2] => { results := [.lit (.bool false)], args := [d1, d2] }
  | _ => none }
def FnSplitRunsAreAsEvenAsCanBeWrongFalsely : Prop := fnSplitRunsAreAsEvenAsCanBeRow.holds Try.pinned (OpenSpec.ofChange fnSplitRunsAreAsEvenAsCanBeWrong)

/-- 'zzlaws_root_b1.FnSharedDigitsSymmetricUltrametric': WHATEVER THE INPUT: true; the input reads as it did. -/
def fnSharedDigitsSymmetricUltrametricSpec : ChangeSpec := { name := "fnSharedDigitsSymmetricUltrametric", fn := fun _ => fun
  | [d1, d2, d3] => { results := [.lit (.bool true)], args := [d1, d2, d3] }
  | _ => none }
def fnSharedDigitsSymmetricUltrametricRow : OpenClaim := { program := "qxb6603900a", sum := "ae618c53ed4c4255975e3a67a9868bdcfa51ea410bc26f1dda97907e8c229801", func := "example.com/ironlattice/ironlattice/zzlaws_root_b1.FnSharedDigitsSymmetricUltrametric", spec := "fnSharedDigitsSymmetricUltrametric", apart := false }
def FnSharedDigitsSymmetricUltrametricSaid : Prop := fnSharedDigitsSymmetricUltrametricRow.holds Try.pinned (OpenSpec.ofChange fnSharedDigitsSymmetricUltrametricSpec)

/-- ITS FALSE NEIGHBOUR: 'it returns false'. Refute it at one input. -/
def fnSharedDigitsSymmetricUltrametricWrong : ChangeSpec := { name := "fnSharedDigitsSymmetricUltrametric", fn := fun _ => fun
  | [d1, d2, d3] => { results := [.lit (.bool false)], args := [d1, d2, d3] }
  | _ => none }
def FnSharedDigitsSymmetricUltrametricWrongFalsely : Prop := fnSharedDigitsSymmetricUltrametricRow.holds Try.pinned (OpenSpec.ofChange fnSharedDigitsSymmetricUltrametricWrong)

/-- 'zzlaws_root_b1.FnSharedDigitsAgreesWithDigit': WHATEVER THE INPUT: true; the input reads as it did. -/
def fnSharedDigitsAgreesWithDigitSpec : ChangeSpec := { name := "fnSharedDigitsAgreesWithDigit", fn := fun _ => fun
  | [d1, d2] => { results := [.lit (.bool true)], args := [d1, d2] }
  | _ => none }
def fnSharedDigitsAgreesWithDigitRow : OpenClaim := { program := "qxb6603900a", sum := "ae618c53ed4c4255975e3a67a9868bdcfa51ea410bc26f1dda97907e8c229801", func := "example.com/ironlattice/ironlattice/zzlaws_root_b1.FnSharedDigitsAgreesWithDigit", spec := "fnSharedDigitsAgreesWithDigit", apart := false }
def FnSharedDigitsAgreesWithDigitSaid : Prop := fnSharedDigitsAgreesWithDigitRow.holds Try.pinned (OpenSpec.ofChange fnSharedDigitsAgreesWithDigitSpec)

/-- ITS FALSE NEIGHBOUR: 'it returns false'. Refute it at one input. -/
def fnSharedDigitsAgreesWithDigitWrong : ChangeSpec := { name := "fnSharedDigitsAgreesWithDigit", fn := fun _ => fun
  | [d1, d2] => { results := [.lit (.bool false)], args := [d1, d2] }
  | _ => none }
def FnSharedDigitsAgreesWithDigitWrongFalsely : Prop := fnSharedDigitsAgreesWithDigitRow.holds Try.pinned (OpenSpec.ofChange fnSharedDigitsAgreesWithDigitWrong)

end Rows
end Go.Proofs.Qxb6603900a
