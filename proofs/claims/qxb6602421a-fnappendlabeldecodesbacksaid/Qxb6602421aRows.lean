/-
  No cell of these rows narrows 'for every input' (looked for: loops, veiled, ifaces, maps, wideKeys, modest, calm, conditions, laid).
  DERIVED. THE GIVEN ROWS OF THIS SEAT. 3 by the template 'for every input the law returns true; each argument reads behind the call as it read before'; 0 by the template 'total and deterministic' (their statements: Qxb6602421aTotals.lean).
  GIVEN WITH THE SEED: the statements are not yours to turn. If you find one false, say at which input.
  Laid BY PROGRAM, IN A SANDBOX (cutbox-rows.mjs): the forced cells as the released guide's own fill.sh prints them over the translation 961097e58c4651d9… (all of the seat's roots in one cut). By AI agents, Wed Nov 11 2026. No macro, syntax, notation, axiom, sorry.
-/
import Derived.Test.Qxb6602421aChecked
import GoSem.Claim
import GoSem.ClaimJoined
import GoSem.ClaimMapViews
import Derived.JoinedTies
import Derived.KernelRfl
namespace Go.Proofs.Qxb6602421a
/- THE CELL 'sum', in the pinned program and in every row, IS THE sha256 OF THE DUMP (.gsa) THAT Qxb6602421aProg.lean LOADS. Nothing in Lean hashes anything: it is a label: what it is worth is what the hold of that sum in a sandbox is worth. -/
noncomputable def Try.pinned : Pinned := { name := "qxb6602421a", sum := "961097e58c4651d9ce6be3d24ca331a45a93c43dc626255d843b8fafadd83728", checked := Try.checked }
namespace Rows
def none {H : Type} : Left H := { results := [], args := [] }

/-- 'zzlaws_internal_dnsmsg_b1.FnAppendLabelMatchesByteTable': WHATEVER THE INPUT: true; the input reads as it did. -/
def fnAppendLabelMatchesByteTableSpec : ChangeSpec := { name := "fnAppendLabelMatchesByteTable", fn := fun _ => fun
  | [d1, d2] => { results := [.lit (.bool true)], args := [d1, d2] }
  | _ => none }
def fnAppendLabelMatchesByteTableRow : OpenClaim := { program := "qxb6602421a", sum := "961097e58c4651d9ce6be3d24ca331a45a93c43dc626255d843b8fafadd83728", func := "example.com/querytrail/querytrail/zzlaws_internal_dnsmsg_b1.FnAppendLabelMatchesByteTable", spec := "fnAppendLabelMatchesByteTable", apart := false }
def FnAppendLabelMatchesByteTableSaid : Prop := fnAppendLabelMatchesByteTableRow.holds Try.pinned (OpenSpec.ofChange fnAppendLabelMatchesByteTableSpec)

/-- ITS FALSE NEIGHBOUR: 'it returns false'. Refute it at one input. -/
def fnAppendLabelMatchesByteTableWrong : ChangeSpec := { name := "fnAppendLabelMatchesByteTable", fn := fun _ => fun
  | [d1, d2] => { results := [.lit (.bool false)], args := [d1, d2] }
  | _ => none }
def FnAppendLabelMatchesByteTableWrongFalsely : Prop := fnAppendLabelMatchesByteTableRow.holds Try.pinned (OpenSpec.ofChange fnAppendLabelMatchesByteTableWrong)

/-- 'zzlaws_internal_dnsmsg_b1.FnAppendLabelDecodesBack': WHATEVER THE INPUT: true; the input reads as it did. -/
def fnAppendLabelDecodesBackSpec : ChangeSpec := { name := "fnAppendLabelDecodesBack", fn := fun _ => fun
  | [d1, d2] => { results := [.lit (.bool true)], args := [d1, d2] }
  | _ => none }
def fnAppendLabelDecodesBackRow : OpenClaim := { program := "qxb6602421a", sum := "961097e58c4651d9ce6be3d24ca331a45a93c43dc626255d843b8fafadd83728", func := "example.com/querytrail/querytrail/zzlaws_internal_dnsmsg_b1.FnAppendLabelDecodesBack", spec := "fnAppendLabelDecodesBack", apart := false }
def FnAppendLabelDecodesBackSaid : Prop := fnAppendLabelDecodesBackRow.holds Try.pinned (OpenSpec.ofChange fnAppendLabelDecodesBackSpec)

/-- ITS FALSE NEIGHBOUR: 'it returns false'. Refute it at one input. -/
def fnAppendLabelDecodesBackWrong : ChangeSpec := { name := "fnAppendLabelDecodesBack", fn := fun _ => fun
  | [d1, d2] => { results := [.lit (.bool false)], args := [d1, d2] }
  | _ => none }
def FnAppendLabelDecodesBackWrongFalsely : Prop := fnAppendLabelDecodesBackRow.holds Try.pinned (OpenSpec.ofChange fnAppendLabelDecodesBackWrong)

/-- 'zzlaws_internal_dnsmsg_b1.FnAppendLabelSplitsOverConcatenation': WHATEVER THE INPUT: true; the input reads as it did. -/
def fnAppendLabelSplitsOverConcatenationSpec : ChangeSpec := { name := "fnAppendLabelSplitsOverConcatenation", fn := fun _ => fun
  | [d1, d2, d3] => { results := [.lit (.bool true)], args := [d1, d2, d3] }
  | _ => none }
def fnAppendLabelSplitsOverConcatenationRow : OpenClaim := { program := "qxb6602421a", sum := "961097e58c4651d9ce6be3d24ca331a45a93c43dc626255d843b8fafadd83728", func := "example.com/querytrail/querytrail/zzlaws_internal_dnsmsg_b1.FnAppendLabelSplitsOverConcatenation", spec := "fnAppendLabelSplitsOverConcatenation", apart := false }
def FnAppendLabelSplitsOverConcatenationSaid : Prop := fnAppendLabelSplitsOverConcatenationRow.holds Try.pinned (OpenSpec.ofChange fnAppendLabelSplitsOverConcatenationSpec)

/-- ITS FALSE NEIGHBOUR: 'it returns false'. Refute it at one input. -/
def fnAppendLabelSplitsOverConcatenationWrong : ChangeSpec := { name := "fnAppendLabelSplitsOverConcatenation", fn := fun _ => fun
  | [d1, d2, d3] => { results := [.lit (.bool false)], args := [d1, d2, d3] }
  | _ => none }
def FnAppendLabelSplitsOverConcatenationWrongFalsely : Prop := fnAppendLabelSplitsOverConcatenationRow.holds Try.pinned (OpenSpec.ofChange fnAppendLabelSplitsOverConcatenationWrong)

end Rows
end Go.Proofs.Qxb6602421a
