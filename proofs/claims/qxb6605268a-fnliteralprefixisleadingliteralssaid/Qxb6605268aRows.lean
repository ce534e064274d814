/-
  No cell of these rows narrows 'for every input' (looked for: loops, veiled, ifaces, maps, wideKeys, modest, calm, conditions, laid).
  DERIVED. THE GIVEN ROWS OF THIS SEAT. 6 by the template 'for every input the law returns true; each argument reads behind the call as it read before'; 0 by the template 'total and deterministic' (their statements: Qxb6605268aTotals.lean).
  GIVEN WITH THE SEED: the statements are not yours to turn. If you find one false, say at which input.
  Laid BY PROGRAM, IN A SANDBOX (cutbox-rows.mjs): the forced cells as the released guide's own fill.sh prints them over the translation 73fc7e000111a2cf… (all of the seat's roots in one cut). By AI agents, Wed Nov 11 2026. No macro, syntax, notation, axiom, sorry.
-/
import Derived.Test.Qxb6605268aChecked
import GoSem.Claim
import GoSem.ClaimJoined
import GoSem.ClaimMapViews
import Derived.JoinedTies
import Derived.KernelRfl
namespace Go.Proofs.Qxb6605268a
/- THE CELL 'sum', in the pinned program and in every row, IS THE sha256 OF THE DUMP (.gsa) THAT Qxb6605268aProg.lean LOADS. Nothing in Lean hashes anything: it is a label: what it is worth is what the hold of that sum in a sandbox is worth. -/
noncomputable def Try.pinned : Pinned := { name := "qxb6605268a", sum := "73fc7e000111a2cf4c5a0532e972dff59bbbe28d2f89137126792ed750998b67", checked := Try.checked }
namespace Rows
def none {H : Type} : Left H := { results := [], args := [] }

/-- 'zzlaws_internal_gateway_b1.FnMatchesAgreesWithGlobModel': WHATEVER THE INPUT: true; the input reads as it did. -/
def fnMatchesAgreesWithGlobModelSpec : ChangeSpec := { name := "fnMatchesAgreesWithGlobModel", fn := fun _ => fun
  | [d1, d2] => { results := [.lit (.bool true)], args := [d1, d2] }
  | _ => none }
def fnMatchesAgreesWithGlobModelRow : OpenClaim := { program := "qxb6605268a", sum := "73fc7e000111a2cf4c5a0532e972dff59bbbe28d2f89137126792ed750998b67", func := "example.com/deferlog/deferlog/zzlaws_internal_gateway_b1.FnMatchesAgreesWithGlobModel", spec := "fnMatchesAgreesWithGlobModel", apart := false }
def FnMatchesAgreesWithGlobModelSaid : Prop := fnMatchesAgreesWithGlobModelRow.holds Try.pinned (OpenSpec.ofChange fnMatchesAgreesWithGlobModelSpec)

/-- ITS FALSE NEIGHBOUR: 'it returns false'. Refute it at one input. -/
def fnMatchesAgreesWithGlobModelWrong : ChangeSpec := { name := "fnMatchesAgreesWithGlobModel", fn := fun _ => fun
  | [d1, d2] => { results := [.lit (.bool false)], args := [d1, d2] }
  | _ => none }
def FnMatchesAgreesWithGlobModelWrongFalsely : Prop := fnMatchesAgreesWithGlobModelRow.holds Try.pinned (OpenSpec.ofChange fnMatchesAgreesWithGlobModelWrong)

/-- 'zzlaws_internal_gateway_b1.FnMatchesEscapedKeyIsLiteral': WHATEVER THE INPUT: true; the input reads as it did. -/
def fnMatchesEscapedKeyIsLiteralSpec : ChangeSpec := { name := "fnMatchesEscapedKeyIsLiteral", fn := fun _ => fun
  | [d1, d2] => { results := [.lit (.bool true)], args := [d1, d2] }
  | _ => none }
def fnMatchesEscapedKeyIsLiteralRow : OpenClaim := { program := "qxb6605268a", sum := "73fc7e000111a2cf4c5a0532e972dff59bbbe28d2f89137126792ed750998b67", func := "example.com/deferlog/deferlog/zzlaws_internal_gateway_b1.FnMatchesEscapedKeyIsLiteral", spec := "fnMatchesEscapedKeyIsLiteral", apart := false }
def FnMatchesEscapedKeyIsLiteralSaid : Prop := fnMatchesEscapedKeyIsLiteralRow.holds Try.pinned (OpenSpec.ofChange fnMatchesEscapedKeyIsLiteralSpec)

/-- ITS FALSE NEIGHBOUR: 'it returns false'. Refute it at one input. -/
def fnMatchesEscapedKeyIsLiteralWrong : ChangeSpec := { name := "fnMatchesEscapedKeyIsLiteral", fn := fun _ => fun
  | [d1, d2] => { results := [.lit (.bool false)], args := [d1, d2] }
  | _ => none }
def FnMatchesEscapedKeyIsLiteralWrongFalsely : Prop := fnMatchesEscapedKeyIsLiteralRow.holds Try.pinned (OpenSpec.ofChange fnMatchesEscapedKeyIsLiteralWrong)

/-- 'zzlaws_internal_gateway_b1.FnMatchListRangeIsInterval': WHATEVER THE INPUT: true; the input reads as it did. -/
def fnMatchListRangeIsIntervalSpec : ChangeSpec := { name := "fnMatchListRangeIsInterval", fn := fun _ => fun
  | [d1, d2, d3, d4, d5] => { results := [.lit (.bool true)], args := [d1, d2, d3, d4, d5] }
  | _ => none }
def fnMatchListRangeIsIntervalRow : OpenClaim := { program := "qxb6605268a", sum := "73fc7e000111a2cf4c5a0532e972dff59bbbe28d2f89137126792ed750998b67", func := "example.com/deferlog/deferlog/zzlaws_internal_gateway_b1.FnMatchListRangeIsInterval", spec := "fnMatchListRangeIsInterval", apart := false }
def FnMatchListRangeIsIntervalSaid : Prop := fnMatchListRangeIsIntervalRow.holds Try.pinned (OpenSpec.ofChange fnMatchListRangeIsIntervalSpec)

/-- ITS FALSE NEIGHBOUR: 'it returns false'. Refute it at one input. -/
def fnMatchListRangeIsIntervalWrong : ChangeSpec := { name := "fnMatchListRangeIsInterval", fn := fun _ => fun
  | [d1, d2, d3, d4, d5] => { results := [.lit (.bool false)], args := [d1, d2, d3, d4, d5] }
  | _ => none }
def FnMatchListRangeIsIntervalWrongFalsely : Prop := fnMatchListRangeIsIntervalRow.holds Try.pinned (OpenSpec.ofChange fnMatchListRangeIsIntervalWrong)

/-- 'zzlaws_internal_gateway_b1.FnMatchListCaretComplements': WHATEVER THE INPUT: true; the input reads as it did. -/
def fnMatchListCaretComplementsSpec : ChangeSpec := { name := "fnMatchListCaretComplements", fn := fun _ => fun
  | [d1, d2] => { results := [.lit (.bool true)], args := [d1, d2] }
  | _ => none }
def fnMatchListCaretComplementsRow : OpenClaim := { program := "qxb6605268a", sum := "73fc7e000111a2cf4c5a0532e972dff59bbbe28d2f89137126792ed750998b67", func := "example.com/deferlog/deferlog/zzlaws_internal_gateway_b1.FnMatchListCaretComplements", spec := "fnMatchListCaretComplements", apart := false }
def FnMatchListCaretComplementsSaid : Prop := fnMatchListCaretComplementsRow.holds Try.pinned (OpenSpec.ofChange fnMatchListCaretComplementsSpec)

/-- ITS FALSE NEIGHBOUR: 'it returns false'. Refute it at one input. -/
def fnMatchListCaretComplementsWrong : ChangeSpec := { name := "fnMatchListCaretComplements", fn := fun _ => fun
  | [d1, d2] => { results := [.lit (.bool false)], args := [d1, d2] }
  | _ => none }
def FnMatchListCaretComplementsWrongFalsely : Prop := fnMatchListCaretComplementsRow.holds Try.pinned (OpenSpec.ofChange fnMatchListCaretComplementsWrong)

/-- 'zzlaws_internal_gateway_b1.FnLiteralPrefixIsLeadingLiterals': WHATEVER THE INPUT: true; the input reads as it did. -/
def fnLiteralPrefixIsLeadingLiteralsSpec : ChangeSpec := { name := "fnLiteralPrefixIsLeadingLiterals", fn := fun _ => fun
  | [d1, d2] => { results := [.lit (.bool true)], args := [d1, d2] }
  | _ => none }
def fnLiteralPrefixIsLeadingLiteralsRow : OpenClaim := { program := "qxb6605268a", sum := "73fc7e000111a2cf4c5a0532e972dff59bbbe28d2f89137126792ed750998b67", func := "example.com/deferlog/deferlog/zzlaws_internal_gateway_b1.FnLiteralPrefixIsLeadingLiterals", spec := "fnLiteralPrefixIsLeadingLiterals", apart := false }
def FnLiteralPrefixIsLeadingLiteralsSaid : Prop := fnLiteralPrefixIsLeadingLiteralsRow.holds Try.pinned (OpenSpec.ofChange fnLiteralPrefixIsLeadingLiteralsSpec)

/-- ITS FALSE NEIGHBOUR: 'it returns false'. Refute it at one input. -/
def fnLiteralPrefixIsLeadingLiteralsWrong : ChangeSpec := { name := "fnLiteralPrefixIsLeadingLiterals", fn := fun _ => fun
  | [d1, d2] => { results := [.lit (.bool false)], args := [d1, d2] }
  | _ => none }
def FnLiteralPrefixIsLeadingLiteralsWrongFalsely : Prop := fnLiteralPrefixIsLeadingLiteralsRow.holds Try.pinned (OpenSpec.ofChange fnLiteralPrefixIsLeadingLiteralsWrong)

/-- 'zzlaws_internal_gateway_b1.FnLiteralPrefixReadsEscapesBack': WHATEVER THE INPUT: true; the input reads as it did. -/
def fnLiteralPrefixReadsEscapesBackSpec : ChangeSpec := { name := "fnLiteralPrefixReadsEscapesBack", fn := fun _ => fun
  | [d1, d2] => { results := [.lit (.bool true)], args := [d1, d2] }
  | _ => none }
def fnLiteralPrefixReadsEscapesBackRow : OpenClaim := { program := "qxb6605268a", sum := "73fc7e000111a2cf4c5a0532e972dff59bbbe28d2f89137126792ed750998b67", func := "example.com/deferlog/deferlog/zzlaws_internal_gateway_b1.FnLiteralPrefixReadsEscapesBack", spec := "fnLiteralPrefixReadsEscapesBack", apart := false }
def FnLiteralPrefixReadsEscapesBackSaid : Prop := fnLiteralPrefixReadsEscapesBackRow.holds Try.pinned (OpenSpec.ofChange fnLiteralPrefixReadsEscapesBackSpec)

/-- ITS FALSE NEIGHBOUR: 'it returns false'. Refute it at one input. -/
def fnLiteralPrefixReadsEscapesBackWrong : ChangeSpec := { name := "fnLiteralPrefixReadsEscapesBack", fn := fun _ => fun
  | [d1, d2] => { results := [.lit (.bool false)], args := [d1, d2] }
  | _ => none }
def FnLiteralPrefixReadsEscapesBackWrongFalsely : Prop := fnLiteralPrefixReadsEscapesBackRow.holds Try.pinned (OpenSpec.ofChange fnLiteralPrefixReadsEscapesBackWrong)

end Rows
end Go.Proofs.Qxb6605268a
