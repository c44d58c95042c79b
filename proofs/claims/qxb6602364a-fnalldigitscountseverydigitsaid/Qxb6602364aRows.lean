/-
  No cell of these rows narrows 'for every input' (looked for: loops, veiled, ifaces, maps, wideKeys, modest, calm, conditions, laid).
  DERIVED. THE GIVEN ROWS OF THIS SEAT. 3 by the template 'for every input the law returns true; each argument reads behind the call as it read before'; 0 by the template 'total and deterministic' (their statements: Qxb6602364aTotals.lean).
  GIVEN WITH THE SEED: the statements are not yours to turn. If you find one false, say at which input.
  Laid BY PROGRAM, IN A SANDBOX (cutbox-rows.mjs): the forced cells as the released guide's own fill.sh prints them over the translation 464cb5cdb504a9c0… (all of the seat's roots in one cut). By AI agents, Wed Nov 11 2026. No macro, syntax, notation, axiom, sorry.
-/
import Derived.Test.Qxb6602364aChecked
import GoSem.Claim
import GoSem.ClaimJoined
import GoSem.ClaimMapViews
import Derived.JoinedTies
import Derived.KernelRfl
namespace Go.Proofs.Qxb6602364a
/- THE CELL 'sum', in the pinned program and in every row, IS THE sha256 OF THE DUMP (.gsa) THAT Qxb6602364aProg.lean LOADS. Nothing in Lean hashes anything: it is a label: what it is worth is what the hold of that sum in a sandbox is worth. -/
noncomputable def Try.pinned : Pinned := { name := "qxb6602364a", sum := "464cb5cdb504a9c0ab8b33c8f3de83c9669350bf18d980a10c9dfb2e5d36a129", checked := Try.checked }
namespace Rows
def none {H : Type} : Left H := { results := [], args := [] }

/-- 'zzlaws_plan_b1.FnAllDigitsCountsEveryDigit': WHATEVER THE INPUT: true; the input reads as it did. -/
def fnAllDigitsCountsEveryDigitSpec : ChangeSpec := { name := "fnAllDigitsCountsEveryDigit", fn := fun _ => fun
  | [d] => { results := [.lit (.bool true)], args := [d] }
  | _ => none }
def fnAllDigitsCountsEveryDigitRow : OpenClaim := { program := "qxb6602364a", sum := "464cb5cdb504a9c0ab8b33c8f3de83c9669350bf18d980a10c9dfb2e5d36a129", func := "example.com/vestbook/vestbook/zzlaws_plan_b1.FnAllDigitsCountsEveryDigit", spec := "fnAllDigitsCountsEveryDigit", apart := false }
def FnAllDigitsCountsEveryDigitSaid : Prop := fnAllDigitsCountsEveryDigitRow.holds Try.pinned (OpenSpec.ofChange fnAllDigitsCountsEveryDigitSpec)

/-- ITS FALSE NEIGHBOUR: 'it returns false'. Refute it at one input. -/
def fnAllDigitsCountsEveryDigitWrong : ChangeSpec := { name := "fnAllDigitsCountsEveryDigit", fn := fun _ => fun
  | [d] => { results := [.lit (.bool false)], args := [d] }
  | _ => none }
def FnAllDigitsCountsEveryDigitWrongFalsely : Prop := fnAllDigitsCountsEveryDigitRow.holds Try.pinned (OpenSpec.ofChange fnAllDigitsCountsEveryDigitWrong)

/-- 'zzlaws_plan_b1.FnAllDigitsSplitsAtAnyCut': WHATEVER THE INPUT: true; the input reads as it did. -/
def fnAllDigitsSplitsAtAnyCutSpec : ChangeSpec := { name := "fnAllDigitsSplitsAtAnyCut", fn := fun _ => fun
  | [d1, d2] => { results := [.lit (.bool true)], args := [d1, d2] }
  | _ => none }
def fnAllDigitsSplitsAtAnyCutRow : OpenClaim := { program := "qxb6602364a", sum := "464cb5cdb504a9c0ab8b33c8f3de83c9669350bf18d980a10c9dfb2e5d36a129", func := "example.com/vestbook/vestbook/zzlaws_plan_b1.FnAllDigitsSplitsAtAnyCut", spec := "fnAllDigitsSplitsAtAnyCut", apart := false }
def FnAllDigitsSplitsAtAnyCutSaid : Prop := fnAllDigitsSplitsAtAnyCutRow.holds Try.pinned (OpenSpec.ofChange fnAllDigitsSplitsAtAnyCutSpec)

/-- ITS FALSE NEIGHBOUR: 'it returns false'. Refute it at one input. -/
def fnAllDigitsSplitsAtAnyCutWrong : ChangeSpec := { name := "fnAllDigitsSplitsAtAnyCut", fn := fun _ => fun
  | [d1, d2] => { results := [.lit (.bool false)], args := [d1, d2] }
  | _ => none }
def FnAllDigitsSplitsAtAnyCutWrongFalsely : Prop := fnAllDigitsSplitsAtAnyCutRow.holds Try.pinned (OpenSpec.ofChange fnAllDigitsSplitsAtAnyCutWrong)

/-- 'zzlaws_plan_b1.FnSignCharacterised': WHATEVER THE INPUT: true; the input reads as it did. -/
def fnSignCharacterisedSpec : ChangeSpec := { name := "fnSignCharacterised", fn := fun _ => fun
  | [d1, d2, d3] => { results := [.lit (.bool true)], args := [d1, d2, d3] }
  | _ => none }
def fnSignCharacterisedRow : OpenClaim := { program := "qxb6602364a", sum := "464cb5cdb504a9c0ab8b33c8f3de83c9669350bf18d980a10c9dfb2e5d36a129", func := "example.com/vestbook/vestbook/zzlaws_plan_b1.FnSignCharacterised", spec := "fnSignCharacterised", apart := false }
def FnSignCharacterisedSaid : Prop := fnSignCharacterisedRow.holds Try.pinned (OpenSpec.ofChange fnSignCharacterisedSpec)

/-- ITS FALSE NEIGHBOUR: 'it returns false'. Refute it at one input. -/
def fnSignCharacterisedWrong : ChangeSpec := { name := "fnSignCharacterised", fn := fun _ => fun
  | [d1, d2, d3] => { results := [.lit (.bool false)], args := [d1, d2, d3] }
  | _ => none }
def FnSignCharacterisedWrongFalsely : Prop := fnSignCharacterisedRow.holds Try.pinned (OpenSpec.ofChange fnSignCharacterisedWrong)

end Rows
end Go.Proofs.Qxb6602364a
