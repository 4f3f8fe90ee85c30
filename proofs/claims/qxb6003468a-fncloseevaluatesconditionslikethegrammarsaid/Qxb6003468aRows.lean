/-
  No cell of these rows narrows 'for every input' (looked for: loops, veiled, ifaces, maps, wideKeys, modest, calm, conditions, laid).
  DERIVED. THE GIVEN ROWS OF THIS SEAT. 7 by the template 'for every input the law returns true; each argument reads behind the call as it read before'; 0 by the template 'total and deterministic' (their statements: Qxb6003468aTotals.lean).
  GIVEN WITH THE SEED: the statements are not yours to turn. If you find one false, say at which input.
  Laid BY PROGRAM, IN A SANDBOX (cutbox-rows.mjs): the forced cells as the released guide's own fill.sh prints them over the translation c993427d95f2c5b8… (all of the seat's roots in one cut). By AI agents, Wed Nov 11 2026. No macro, syntax, notation, axiom, sorry.
-/
import Derived.Test.Qxb6003468aChecked
import GoSem.Claim
import GoSem.ClaimJoined
import GoSem.ClaimMapViews
import Derived.JoinedTies
import Derived.KernelRfl
namespace Go.Proofs.Qxb6003468a
/- THE CELL 'sum', in the pinned program and in every row, IS THE sha256 OF THE DUMP (.gsa) THAT Qxb6003468aProg.lean LOADS. Nothing in Lean hashes anything: it is a label: what it is worth is what the hold of that sum in a sandbox is worth. -/
noncomputable def Try.pinned : Pinned := { name := "qxb6003468a", sum := "c993427d95f2c5b8f21ed4bcf56dbe1c0e280eedfbe038ffbe762cd7d19a262d", checked := Try.checked }
namespace Rows
def none {H : Type} : Left H := { results := [], args := [] }

/-- 'zzlaws_internal_syntax_b2.FnCutOperatorRebuildsText': WHATEVER THE INPUT: true; the input reads as it did. -/
def fnCutOperatorRebuildsTextSpec : ChangeSpec := { name := "fnCutOperatorRebuildsText", fn := fun _ => fun
  | [d] => { results := [.lit (.bool true)], args := [d] }
  | _ => none }
def fnCutOperatorRebuildsTextRow : OpenClaim := { program := "qxb6003468a", sum := "c993427d95f2c5b8f21ed4bcf56dbe1c0e280eedfbe038ffbe762cd7d19a262d", func := "example.com/config-value-resolver/config-value-resolver/zzlaws_internal_syntax_b2.FnCutOperatorRebuildsText", spec := "fnCutOperatorRebuildsText", inPlace := ["internal/bytealg.IndexByteString"], apart := false }
def FnCutOperatorRebuildsTextSaid : Prop := fnCutOperatorRebuildsTextRow.holds Try.pinned (OpenSpec.ofChange fnCutOperatorRebuildsTextSpec)

/-- ITS FALSE NEIGHBOUR: 'it returns false'. Refute it at one input. -/
def fnCutOperatorRebuildsTextWrong : ChangeSpec := { name := "fnCutOperatorRebuildsText", fn := fun _ => fun
  | [d] => { results := [.lit (.bool false)], args := [d] }
  | _ => none }
def FnCutOperatorRebuildsTextWrongFalsely : Prop := fnCutOperatorRebuildsTextRow.holds Try.pinned (OpenSpec.ofChange fnCutOperatorRebuildsTextWrong)

/-- 'zzlaws_internal_syntax_b2.FnCutOperatorStableUnderAppendedText': WHATEVER THE INPUT: true; the input reads as it did. -/
def fnCutOperatorStableUnderAppendedTextSpec : ChangeSpec := { name := "fnCutOperatorStableUnderAppendedText", fn := fun _ => fun
  | [d1, d2] => { results := [.lit (.bool true)], args := [d1, d2] }
  | _ => none }
def fnCutOperatorStableUnderAppendedTextRow : OpenClaim := { program := "qxb6003468a", sum := "c993427d95f2c5b8f21ed4bcf56dbe1c0e280eedfbe038ffbe762cd7d19a262d", func := "example.com/config-value-resolver/config-value-resolver/zzlaws_internal_syntax_b2.FnCutOperatorStableUnderAppendedText", spec := "fnCutOperatorStableUnderAppendedText", inPlace := ["internal/bytealg.IndexByteString"], apart := false }
def FnCutOperatorStableUnderAppendedTextSaid : Prop := fnCutOperatorStableUnderAppendedTextRow.holds Try.pinned (OpenSpec.ofChange fnCutOperatorStableUnderAppendedTextSpec)

/-- ITS FALSE NEIGHBOUR: 'it returns false'. Refute it at one input. -/
def fnCutOperatorStableUnderAppendedTextWrong : ChangeSpec := { name := "fnCutOperatorStableUnderAppendedText", fn := fun _ => fun
  | [d1, d2] => { results := [.lit (.bool false)], args := [d1, d2] }
  | _ => none }
def FnCutOperatorStableUnderAppendedTextWrongFalsely : Prop := fnCutOperatorStableUnderAppendedTextRow.holds Try.pinned (OpenSpec.ofChange fnCutOperatorStableUnderAppendedTextWrong)

/-- 'zzlaws_internal_syntax_b2.FnCloseReportsWhetherAParenthesisIsOpen': WHATEVER THE INPUT: true; the input reads as it did. -/
def fnCloseReportsWhetherAParenthesisIsOpenSpec : ChangeSpec := { name := "fnCloseReportsWhetherAParenthesisIsOpen", fn := fun _ => fun
  | [d] => { results := [.lit (.bool true)], args := [d] }
  | _ => none }
def fnCloseReportsWhetherAParenthesisIsOpenRow : OpenClaim := { program := "qxb6003468a", sum := "c993427d95f2c5b8f21ed4bcf56dbe1c0e280eedfbe038ffbe762cd7d19a262d", func := "example.com/config-value-resolver/config-value-resolver/zzlaws_internal_syntax_b2.FnCloseReportsWhetherAParenthesisIsOpen", spec := "fnCloseReportsWhetherAParenthesisIsOpen", apart := false }
def FnCloseReportsWhetherAParenthesisIsOpenSaid : Prop := fnCloseReportsWhetherAParenthesisIsOpenRow.holds Try.pinned (OpenSpec.ofChange fnCloseReportsWhetherAParenthesisIsOpenSpec)

/-- ITS FALSE NEIGHBOUR: 'it returns false'. Refute it at one input. -/
def fnCloseReportsWhetherAParenthesisIsOpenWrong : ChangeSpec := { name := "fnCloseReportsWhetherAParenthesisIsOpen", fn := fun _ => fun
  | [d] => { results := [.lit (.bool false)], args := [d] }
  | _ => none }
def FnCloseReportsWhetherAParenthesisIsOpenWrongFalsely : Prop := fnCloseReportsWhetherAParenthesisIsOpenRow.holds Try.pinned (OpenSpec.ofChange fnCloseReportsWhetherAParenthesisIsOpenWrong)

/-- 'zzlaws_internal_syntax_b2.FnCloseEvaluatesConditionsLikeTheGrammar': WHATEVER THE INPUT: true; the input reads as it did. -/
def fnCloseEvaluatesConditionsLikeTheGrammarSpec : ChangeSpec := { name := "fnCloseEvaluatesConditionsLikeTheGrammar", fn := fun _ => fun
  | [d] => { results := [.lit (.bool true)], args := [d] }
  | _ => none }
def fnCloseEvaluatesConditionsLikeTheGrammarRow : OpenClaim := { program := "qxb6003468a", sum := "c993427d95f2c5b8f21ed4bcf56dbe1c0e280eedfbe038ffbe762cd7d19a262d", func := "example.com/config-value-resolver/config-value-resolver/zzlaws_internal_syntax_b2.FnCloseEvaluatesConditionsLikeTheGrammar", spec := "fnCloseEvaluatesConditionsLikeTheGrammar", recurses := true, apart := false }
def FnCloseEvaluatesConditionsLikeTheGrammarSaid : Prop := fnCloseEvaluatesConditionsLikeTheGrammarRow.holds Try.pinned (OpenSpec.ofChange fnCloseEvaluatesConditionsLikeTheGrammarSpec)

/-- ITS FALSE NEIGHBOUR: 'it returns false'. Refute it at one input. -/
def fnCloseEvaluatesConditionsLikeTheGrammarWrong : ChangeSpec := { name := "fnCloseEvaluatesConditionsLikeTheGrammar", fn := fun _ => fun
  | [d] => { results := [.lit (.bool false)], args := [d] }
  | _ => none }
def FnCloseEvaluatesConditionsLikeTheGrammarWrongFalsely : Prop := fnCloseEvaluatesConditionsLikeTheGrammarRow.holds Try.pinned (OpenSpec.ofChange fnCloseEvaluatesConditionsLikeTheGrammarWrong)

/-- 'zzlaws_internal_syntax_b2.FnOptionLinesNextMatchesALineByLineWalk': WHATEVER THE INPUT: true; the input reads as it did. -/
def fnOptionLinesNextMatchesALineByLineWalkSpec : ChangeSpec := { name := "fnOptionLinesNextMatchesALineByLineWalk", fn := fun _ => fun
  | [d1, d2, d3, d4] => { results := [.lit (.bool true)], args := [d1, d2, d3, d4] }
  | _ => none }
def fnOptionLinesNextMatchesALineByLineWalkRow : OpenClaim := { program := "qxb6003468a", sum := "c993427d95f2c5b8f21ed4bcf56dbe1c0e280eedfbe038ffbe762cd7d19a262d", func := "example.com/config-value-resolver/config-value-resolver/zzlaws_internal_syntax_b2.FnOptionLinesNextMatchesALineByLineWalk", spec := "fnOptionLinesNextMatchesALineByLineWalk", inPlace := ["internal/bytealg.IndexByteString", "internal/bytealg.IndexString", "internal/bytealg.CountString"], named := ["internal/bytealg.MaxLen"], apart := false }
def FnOptionLinesNextMatchesALineByLineWalkSaid : Prop := fnOptionLinesNextMatchesALineByLineWalkRow.holds Try.pinned (OpenSpec.ofChange fnOptionLinesNextMatchesALineByLineWalkSpec)

/-- ITS FALSE NEIGHBOUR: 'it returns false'. Refute it at one input. -/
def fnOptionLinesNextMatchesALineByLineWalkWrong : ChangeSpec := { name := "fnOptionLinesNextMatchesALineByLineWalk", fn := fun _ => fun
  | [d1, d2, d3, d4] => { results := [.lit (.bool false)], args := [d1, d2, d3, d4] }
  | _ => none }
def FnOptionLinesNextMatchesALineByLineWalkWrongFalsely : Prop := fnOptionLinesNextMatchesALineByLineWalkRow.holds Try.pinned (OpenSpec.ofChange fnOptionLinesNextMatchesALineByLineWalkWrong)

/-- 'zzlaws_internal_syntax_b2.FnOptionLinesNextReusedAgreesWithFresh': WHATEVER THE INPUT: true; the input reads as it did. -/
def fnOptionLinesNextReusedAgreesWithFreshSpec : ChangeSpec := { name := "fnOptionLinesNextReusedAgreesWithFresh", fn := fun _ => fun
  | [d1, d2, d3, d4] => { results := [.lit (.bool true)], args := [d1, d2, d3, d4] }
  | _ => none }
def fnOptionLinesNextReusedAgreesWithFreshRow : OpenClaim := { program := "qxb6003468a", sum := "c993427d95f2c5b8f21ed4bcf56dbe1c0e280eedfbe038ffbe762cd7d19a262d", func := "example.com/config-value-resolver/config-value-resolver/zzlaws_internal_syntax_b2.FnOptionLinesNextReusedAgreesWithFresh", spec := "fnOptionLinesNextReusedAgreesWithFresh", inPlace := ["internal/bytealg.IndexByteString", "internal/bytealg.IndexString", "internal/bytealg.CountString"], named := ["internal/bytealg.MaxLen"], apart := false }
def FnOptionLinesNextReusedAgreesWithFreshSaid : Prop := fnOptionLinesNextReusedAgreesWithFreshRow.holds Try.pinned (OpenSpec.ofChange fnOptionLinesNextReusedAgreesWithFreshSpec)

/-- ITS FALSE NEIGHBOUR: 'it returns false'. Refute it at one input. -/
def fnOptionLinesNextReusedAgreesWithFreshWrong : ChangeSpec := { name := "fnOptionLinesNextReusedAgreesWithFresh", fn := fun _ => fun
  | [d1, d2, d3, d4] => { results := [.lit (.bool false)], args := [d1, d2, d3, d4] }
  | _ => none }
def FnOptionLinesNextReusedAgreesWithFreshWrongFalsely : Prop := fnOptionLinesNextReusedAgreesWithFreshRow.holds Try.pinned (OpenSpec.ofChange fnOptionLinesNextReusedAgreesWithFreshWrong)

/-- 'zzlaws_internal_syntax_b2.FnOptionLinesNextReadableIsNoLater': WHATEVER THE INPUT: true; the input reads as it did. -/
def fnOptionLinesNextReadableIsNoLaterSpec : ChangeSpec := { name := "fnOptionLinesNextReadableIsNoLater", fn := fun _ => fun
  | [d1, d2, d3] => { results := [.lit (.bool true)], args := [d1, d2, d3] }
  | _ => none }
def fnOptionLinesNextReadableIsNoLaterRow : OpenClaim := { program := "qxb6003468a", sum := "c993427d95f2c5b8f21ed4bcf56dbe1c0e280eedfbe038ffbe762cd7d19a262d", func := "example.com/config-value-resolver/config-value-resolver/zzlaws_internal_syntax_b2.FnOptionLinesNextReadableIsNoLater", spec := "fnOptionLinesNextReadableIsNoLater", inPlace := ["internal/bytealg.IndexByteString", "internal/bytealg.IndexString", "internal/bytealg.CountString"], named := ["internal/bytealg.MaxLen"], apart := false }
def FnOptionLinesNextReadableIsNoLaterSaid : Prop := fnOptionLinesNextReadableIsNoLaterRow.holds Try.pinned (OpenSpec.ofChange fnOptionLinesNextReadableIsNoLaterSpec)

/-- ITS FALSE NEIGHBOUR: 'it returns false'. Refute it at one input. -/
def fnOptionLinesNextReadableIsNoLaterWrong : ChangeSpec := { name := "fnOptionLinesNextReadableIsNoLater", fn := fun _ => fun
  | [d1, d2, d3] => { results := [.lit (.bool false)], args := [d1, d2, d3] }
  | _ => none }
def FnOptionLinesNextReadableIsNoLaterWrongFalsely : Prop := fnOptionLinesNextReadableIsNoLaterRow.holds Try.pinned (OpenSpec.ofChange fnOptionLinesNextReadableIsNoLaterWrong)

end Rows
end Go.Proofs.Qxb6003468a
