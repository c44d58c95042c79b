/-
  No cell of these rows narrows 'for every input' (looked for: loops, veiled, ifaces, maps, wideKeys, modest, calm, conditions, laid).
  DERIVED. THE GIVEN ROWS OF THIS SEAT. 4 by the template 'for every input the law returns true; each argument reads behind the call as it read before'; 0 by the template 'total and deterministic' (their statements: Qxb6602321aTotals.lean).
  GIVEN WITH THE SEED: the statements are not yours to turn. If you find one false, say at which input.
  Laid BY PROGRAM, IN A SANDBOX (cutbox-rows.mjs): the forced cells as the released guide's own fill.sh prints them over the translation d6cf7f7a3afd82e9… (all of the seat's roots in one cut). By AI agents, Wed Nov 11 2026. No macro, syntax, notation, axiom, sorry.
-/
import Derived.Test.Qxb6602321aChecked
import GoSem.Claim
import GoSem.ClaimJoined
import GoSem.ClaimMapViews
import Derived.JoinedTies
import Derived.KernelRfl
namespace Go.Proofs.Qxb6602321a
/- THE CELL 'sum', in the pinned program and in every row, IS THE sha256 OF THE DUMP (.gsa) THAT Qxb6602321aProg.lean LOADS. Nothing in Lean hashes anything: it is a label: what it is worth is what the hold of that sum in a sandbox is worth. -/
noncomputable def Try.pinned : Pinned := { name := "qxb6602321a", sum := "d6cf7f7a3afd82e9157249e9d6997fb7a10fe502705ea03c2aaa6c5c0f8f8c5f", checked := Try.checked }
namespace Rows
def none {H : Type} : Left H := { results := [], args := [] }

/-- 'zzlaws_root_b1.FnRoundPartialsIsCorrectlyRoundedSum': WHATEVER THE INPUT: true; the input reads as it did. -/
def fnRoundPartialsIsCorrectlyRoundedSumSpec : ChangeSpec := { name := "fnRoundPartialsIsCorrectlyRoundedSum", fn := fun _ => fun
  | [d] => { results := [.lit (.bool true)], args := [d] }
  | _ => none }
def fnRoundPartialsIsCorrectlyRoundedSumRow : OpenClaim := { program := "qxb6602321a", sum := "d6cf7f7a3afd82e9157249e9d6997fb7a10fe502705ea03c2aaa6c5c0f8f8c5f", func := "example.com/tallowframe/tallowframe/zzlaws_root_b1.FnRoundPartialsIsCorrectlyRoundedSum", spec := "fnRoundPartialsIsCorrectlyRoundedSum", apart := false }
def FnRoundPartialsIsCorrectlyRoundedSumSaid : Prop := fnRoundPartialsIsCorrectlyRoundedSumRow.holds Try.pinned (OpenSpec.ofChange fnRoundPartialsIsCorrectlyRoundedSumSpec)

/-- ITS FALSE NEIGHBOUR: 'it returns false'. Refute it at one input. -/
def fnRoundPartialsIsCorrectlyRoundedSumWrong : ChangeSpec := { name := "fnRoundPartialsIsCorrectlyRoundedSum", fn := fun _ => fun
  | [d] => { results := [.lit (.bool false)], args := [d] }
  | _ => none }
def FnRoundPartialsIsCorrectlyRoundedSumWrongFalsely : Prop := fnRoundPartialsIsCorrectlyRoundedSumRow.holds Try.pinned (OpenSpec.ofChange fnRoundPartialsIsCorrectlyRoundedSumWrong)

/-- 'zzlaws_root_b1.FnRoundPartialsOddUnderNegation': WHATEVER THE INPUT: true; the input reads as it did. -/
def fnRoundPartialsOddUnderNegationSpec : ChangeSpec := { name := "fnRoundPartialsOddUnderNegation", fn := fun _ => fun
  | [d] => { results := [.lit (.bool true)], args := [d] }
  | _ => none }
def fnRoundPartialsOddUnderNegationRow : OpenClaim := { program := "qxb6602321a", sum := "d6cf7f7a3afd82e9157249e9d6997fb7a10fe502705ea03c2aaa6c5c0f8f8c5f", func := "example.com/tallowframe/tallowframe/zzlaws_root_b1.FnRoundPartialsOddUnderNegation", spec := "fnRoundPartialsOddUnderNegation", apart := false }
def FnRoundPartialsOddUnderNegationSaid : Prop := fnRoundPartialsOddUnderNegationRow.holds Try.pinned (OpenSpec.ofChange fnRoundPartialsOddUnderNegationSpec)

/-- ITS FALSE NEIGHBOUR: 'it returns false'. Refute it at one input. -/
def fnRoundPartialsOddUnderNegationWrong : ChangeSpec := { name := "fnRoundPartialsOddUnderNegation", fn := fun _ => fun
  | [d] => { results := [.lit (.bool false)], args := [d] }
  | _ => none }
def FnRoundPartialsOddUnderNegationWrongFalsely : Prop := fnRoundPartialsOddUnderNegationRow.holds Try.pinned (OpenSpec.ofChange fnRoundPartialsOddUnderNegationWrong)

/-- 'zzlaws_root_b1.FnNextTokenBoundsAndRestart': WHATEVER THE INPUT: true; the input reads as it did. -/
def fnNextTokenBoundsAndRestartSpec : ChangeSpec := { name := "fnNextTokenBoundsAndRestart", fn := fun _ => fun
  | [d1, d2] => { results := [.lit (.bool true)], args := [d1, d2] }
  | _ => none }
def fnNextTokenBoundsAndRestartRow : OpenClaim := { program := "qxb6602321a", sum := "d6cf7f7a3afd82e9157249e9d6997fb7a10fe502705ea03c2aaa6c5c0f8f8c5f", func := "example.com/tallowframe/tallowframe/zzlaws_root_b1.FnNextTokenBoundsAndRestart", spec := "fnNextTokenBoundsAndRestart", inPlace := ["internal/bytealg.IndexByteString", "internal/bytealg.IndexString"], named := ["internal/bytealg.MaxLen"], apart := false }
def FnNextTokenBoundsAndRestartSaid : Prop := fnNextTokenBoundsAndRestartRow.holds Try.pinned (OpenSpec.ofChange fnNextTokenBoundsAndRestartSpec)

/-- ITS FALSE NEIGHBOUR: 'it returns false'. Refute it at one input. -/
def fnNextTokenBoundsAndRestartWrong : ChangeSpec := { name := "fnNextTokenBoundsAndRestart", fn := fun _ => fun
  | [d1, d2] => { results := [.lit (.bool false)], args := [d1, d2] }
  | _ => none }
def FnNextTokenBoundsAndRestartWrongFalsely : Prop := fnNextTokenBoundsAndRestartRow.holds Try.pinned (OpenSpec.ofChange fnNextTokenBoundsAndRestartWrong)

/-- 'zzlaws_root_b1.FnNextTokenDependsOnlyOnTextUpToItsEnd': WHATEVER THE INPUT: true; the input reads as it did. -/
def fnNextTokenDependsOnlyOnTextUpToItsEndSpec : ChangeSpec := { name := "fnNextTokenDependsOnlyOnTextUpToItsEnd", fn := fun _ => fun
  | [d1, d2] => { results := [.lit (.bool true)], args := [d1, d2] }
  | _ => none }
def fnNextTokenDependsOnlyOnTextUpToItsEndRow : OpenClaim := { program := "qxb6602321a", sum := "d6cf7f7a3afd82e9157249e9d6997fb7a10fe502705ea03c2aaa6c5c0f8f8c5f", func := "example.com/tallowframe/tallowframe/zzlaws_root_b1.FnNextTokenDependsOnlyOnTextUpToItsEnd", spec := "fnNextTokenDependsOnlyOnTextUpToItsEnd", inPlace := ["internal/bytealg.IndexByteString", "internal/bytealg.IndexString"], named := ["internal/bytealg.MaxLen"], apart := false }
def FnNextTokenDependsOnlyOnTextUpToItsEndSaid : Prop := fnNextTokenDependsOnlyOnTextUpToItsEndRow.holds Try.pinned (OpenSpec.ofChange fnNextTokenDependsOnlyOnTextUpToItsEndSpec)

/-- ITS FALSE NEIGHBOUR: 'it returns false'. Refute it at one input. -/
def fnNextTokenDependsOnlyOnTextUpToItsEndWrong : ChangeSpec := { name := "fnNextTokenDependsOnlyOnTextUpToItsEnd", fn := fun _ => fun
  | [d1, d2] => { results := [.lit (.bool false)], args := [d1, d2] }
  | _ => none }
def FnNextTokenDependsOnlyOnTextUpToItsEndWrongFalsely : Prop := fnNextTokenDependsOnlyOnTextUpToItsEndRow.holds Try.pinned (OpenSpec.ofChange fnNextTokenDependsOnlyOnTextUpToItsEndWrong)

end Rows
end Go.Proofs.Qxb6602321a
