/-
  No cell of these rows narrows 'for every input' (looked for: loops, veiled, ifaces, maps, wideKeys, modest, calm, conditions, laid).
  DERIVED. THE GIVEN ROWS OF THIS SEAT. 3 by the template 'for every input the law returns true; each argument reads behind the call as it read before'; 0 by the template 'total and deterministic' (their statements: Qxb6603928aTotals.lean).
  GIVEN WITH THE SEED: the statements are not yours to turn. If you find one false, say at which input.
  Laid BY PROGRAM, IN A SANDBOX (cutbox-rows.mjs): the forced cells as the released guide's own fill.sh prints them over the translation b68b0c38171ac840… (all of the seat's roots in one cut). By AI agents, Wed Nov 11 2026. No macro, syntax, notation, axiom, sorry.
-/
import Derived.Test.Qxb6603928aChecked
import GoSem.Claim
import GoSem.ClaimJoined
import GoSem.ClaimMapViews
import Derived.JoinedTies
import Derived.KernelRfl
namespace Go.Proofs.Qxb6603928a
/- THE CELL 'sum', in the pinned program and in every row, IS THE sha256 OF THE DUMP (.gsa) THAT Qxb6603928aProg.lean LOADS. Nothing in Lean hashes anything: it is a label: what it is worth is what the hold of that sum in a sandbox is worth. -/
noncomputable def Try.pinned : Pinned := { name := "qxb6603928a", sum := "b68b0c38171ac8401b5ce9647fc42bfa95cda47253b27f7a35f58c97e0b8f61b", checked := Try.checked }
namespace Rows
def none {H : Type} : Left H := { results := [], args := [] }

/-- 'zzlaws_plan_b1.FnStringEndMatchesScanner': WHATEVER THE INPUT: true; the input reads as it did. -/
def fnStringEndMatchesScannerSpec : ChangeSpec := { name := "fnStringEndMatchesScanner", fn := fun _ => fun
  | [d1, d2] => { results := [.lit (.bool true)], args := [d1, d2] }
  | _ => none }
def fnStringEndMatchesScannerRow : OpenClaim := { program := "qxb6603928a", sum := "b68b0c38171ac8401b5ce9647fc42bfa95cda47253b27f7a35f58c97e0b8f61b", func := "example.com/vestline/vestline/zzlaws_plan_b1.FnStringEndMatchesScanner", spec := "fnStringEndMatchesScanner", inPlace := ["internal/abi.NoEscape", "internal/bytealg.MakeNoZero"], apart := false }
def FnStringEndMatchesScannerSaid : Prop := fnStringEndMatchesScannerRow.holds Try.pinned (OpenSpec.ofChange fnStringEndMatchesScannerSpec)

/-- ITS FALSE NEIGHBOUR: 'it returns false'. Refute it at one input. -/
def fnStringEndMatchesScannerWrong : ChangeSpec := { name := "fnStringEndMatchesScanner", fn := fun _ => fun
  | [d1, d2] => { results := [.lit (.bool false)], args := [d1, d2] }
  | _ => none }
def FnStringEndMatchesScannerWrongFalsely : Prop := fnStringEndMatchesScannerRow.holds Try.pinned (OpenSpec.ofChange fnStringEndMatchesScannerWrong)

/-- 'zzlaws_plan_b1.FnStringEndClosesOnItsQuote': WHATEVER THE INPUT: true; the input reads as it did. -/
def fnStringEndClosesOnItsQuoteSpec : ChangeSpec := { name := "fnStringEndClosesOnItsQuote", fn := fun _ => fun
  | [d1, d2] => { results := [.lit (.bool true)], args := [d1, d2] }
  | _ => none }
def fnStringEndClosesOnItsQuoteRow : OpenClaim := { program := "qxb6603928a", sum := "b68b0c38171ac8401b5ce9647fc42bfa95cda47253b27f7a35f58c97e0b8f61b", func := "example.com/vestline/vestline/zzlaws_plan_b1.FnStringEndClosesOnItsQuote", spec := "fnStringEndClosesOnItsQuote", inPlace := ["internal/abi.NoEscape", "internal/bytealg.MakeNoZero"], apart := false }
def FnStringEndClosesOnItsQuoteSaid : Prop := fnStringEndClosesOnItsQuoteRow.holds Try.pinned (OpenSpec.ofChange fnStringEndClosesOnItsQuoteSpec)

/-- ITS FALSE NEIGHBOUR: 'it returns false'. Refute it at one input. -/
def fnStringEndClosesOnItsQuoteWrong : ChangeSpec := { name := "fnStringEndClosesOnItsQuote", fn := fun _ => fun
  | [d1, d2] => { results := [.lit (.bool false)], args := [d1, d2] }
  | _ => none }
def FnStringEndClosesOnItsQuoteWrongFalsely : Prop := fnStringEndClosesOnItsQuoteRow.holds Try.pinned (OpenSpec.ofChange fnStringEndClosesOnItsQuoteWrong)

/-- 'zzlaws_plan_b1.FnValidIDMatchesAlphabet': WHATEVER THE INPUT: true; the input reads as it did. -/
def fnValidIDMatchesAlphabetSpec : ChangeSpec := { name := "fnValidIDMatchesAlphabet", fn := fun _ => fun
  | [d] => { results := [.lit (.bool true)], args := [d] }
  | _ => none }
def fnValidIDMatchesAlphabetRow : OpenClaim := { program := "qxb6603928a", sum := "b68b0c38171ac8401b5ce9647fc42bfa95cda47253b27f7a35f58c97e0b8f61b", func := "example.com/vestline/vestline/zzlaws_plan_b1.FnValidIDMatchesAlphabet", spec := "fnValidIDMatchesAlphabet", apart := false }
def FnValidIDMatchesAlphabetSaid : Prop := fnValidIDMatchesAlphabetRow.holds Try.pinned (OpenSpec.ofChange fnValidIDMatchesAlphabetSpec)

/-- ITS FALSE NEIGHBOUR: 'it returns false'. Refute it at one input. -/
def fnValidIDMatchesAlphabetWrong : ChangeSpec := { name := "fnValidIDMatchesAlphabet", fn := fun _ => fun
  | [d] => { results := [.lit (.bool false)], args := [d] }
  | _ => none }
def FnValidIDMatchesAlphabetWrongFalsely : Prop := fnValidIDMatchesAlphabetRow.holds Try.pinned (OpenSpec.ofChange fnValidIDMatchesAlphabetWrong)

end Rows
end Go.Proofs.Qxb6603928a
