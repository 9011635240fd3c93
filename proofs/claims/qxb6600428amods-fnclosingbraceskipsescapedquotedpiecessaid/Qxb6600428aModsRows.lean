/-
  No cell of these rows narrows 'for every input' (looked for: loops, veiled, ifaces, maps, wideKeys, modest, calm, conditions, laid).
  DERIVED. THE GIVEN ROWS OF THIS SEAT. 5 by the template 'for every input the law returns true; each argument reads behind the call as it read before'; 0 by the template 'total and deterministic' (their statements: Qxb6600428aModsTotals.lean).
  GIVEN WITH THE SEED: the statements are not yours to turn. If you find one false, say at which input.
  Laid BY PROGRAM, IN A SANDBOX (cutbox-rows.mjs): the forced cells as the released guide's own fill.sh prints them over the translation 765051773037bb53… (all of the seat's roots in one cut). By AI agents, Wed Nov 11 2026. No macro, syntax, notation, axiom, sorry.
-/
import Derived.Test.Qxb6600428aModsChecked
import GoSem.Claim
import GoSem.ClaimJoined
import GoSem.ClaimMapViews
import Derived.JoinedTies
import Derived.KernelRfl
namespace Go.Proofs.Qxb6600428aMods
/- THE CELL 'sum', in the pinned program and in every row, IS THE sha256 OF THE DUMP (.gsa) THAT Qxb6600428aModsProg.lean LOADS. Nothing in Lean hashes anything: it is a label: what it is worth is what the hold of that sum in a sandbox is worth. -/
noncomputable def Trym.pinned : Pinned := { name := "qxb6600428amods", sum := "765051773037bb53a27739b2c0f6345e699fece5f184ed5a30bd7b66b1198ef8", checked := Trym.checked }
namespace Rows
def none {H : Type} : Left H := { results := [], args := [] }

/-- 'zzlaws_internal_binding_b1.FnClosingBraceMatchesTokenModel': WHATEVER THE INPUT: true; the input reads as it did. -/
def fnClosingBraceMatchesTokenModelSpec : ChangeSpec := { name := "fnClosingBraceMatchesTokenModel", fn := fun _ => fun
  | [d] => { results := [.lit (.bool true)], args := [d] }
  | _ => none }
def fnClosingBraceMatchesTokenModelRow : OpenClaim := { program := "qxb6600428amods", sum := "765051773037bb53a27739b2c0f6345e699fece5f184ed5a30bd7b66b1198ef8", func := "example.com/hawser/hawser/zzlaws_internal_binding_b1.FnClosingBraceMatchesTokenModel", spec := "fnClosingBraceMatchesTokenModel", make := .lifted ["publicsums"], apart := false }
def FnClosingBraceMatchesTokenModelSaid : Prop := fnClosingBraceMatchesTokenModelRow.holds Trym.pinned (OpenSpec.ofChange fnClosingBraceMatchesTokenModelSpec)

/-- ITS FALSE NEIGHBOUR: 'it returns false'. Refute it at one input. -/
def fnClosingBraceMatchesTokenModelWrong : ChangeSpec := { name := "fnClosingBraceMatchesTokenModel", fn := fun _ => fun
  | [d] => { results := [.lit (.bool false)], args := [d] }
  | _ => none }
def FnClosingBraceMatchesTokenModelWrongFalsely : Prop := fnClosingBraceMatchesTokenModelRow.holds Trym.pinned (OpenSpec.ofChange fnClosingBraceMatchesTokenModelWrong)

/-- 'zzlaws_internal_binding_b1.FnClosingBraceSkipsEscapedQuotedPieces': WHATEVER THE INPUT: true; the input reads as it did. -/
def fnClosingBraceSkipsEscapedQuotedPiecesSpec : ChangeSpec := { name := "fnClosingBraceSkipsEscapedQuotedPieces", fn := fun _ => fun
  | [d1, d2, d3] => { results := [.lit (.bool true)], args := [d1, d2, d3] }
  | _ => none }
def fnClosingBraceSkipsEscapedQuotedPiecesRow : OpenClaim := { program := "qxb6600428amods", sum := "765051773037bb53a27739b2c0f6345e699fece5f184ed5a30bd7b66b1198ef8", func := "example.com/hawser/hawser/zzlaws_internal_binding_b1.FnClosingBraceSkipsEscapedQuotedPieces", spec := "fnClosingBraceSkipsEscapedQuotedPieces", make := .lifted ["publicsums"], apart := false }
def FnClosingBraceSkipsEscapedQuotedPiecesSaid : Prop := fnClosingBraceSkipsEscapedQuotedPiecesRow.holds Trym.pinned (OpenSpec.ofChange fnClosingBraceSkipsEscapedQuotedPiecesSpec)

/-- ITS FALSE NEIGHBOUR: 'it returns false'. Refute it at one input. -/
def fnClosingBraceSkipsEscapedQuotedPiecesWrong : ChangeSpec := { name := "fnClosingBraceSkipsEscapedQuotedPieces", fn := fun _ => fun
  | [d1, d2, d3] => { results := [.lit (.bool false)], args := [d1, d2, d3] }
  | _ => none }
def FnClosingBraceSkipsEscapedQuotedPiecesWrongFalsely : Prop := fnClosingBraceSkipsEscapedQuotedPiecesRow.holds Trym.pinned (OpenSpec.ofChange fnClosingBraceSkipsEscapedQuotedPiecesWrong)

/-- 'zzlaws_internal_binding_b1.FnClosingBraceIgnoresWhatFollows': WHATEVER THE INPUT: true; the input reads as it did. -/
def fnClosingBraceIgnoresWhatFollowsSpec : ChangeSpec := { name := "fnClosingBraceIgnoresWhatFollows", fn := fun _ => fun
  | [d1, d2] => { results := [.lit (.bool true)], args := [d1, d2] }
  | _ => none }
def fnClosingBraceIgnoresWhatFollowsRow : OpenClaim := { program := "qxb6600428amods", sum := "765051773037bb53a27739b2c0f6345e699fece5f184ed5a30bd7b66b1198ef8", func := "example.com/hawser/hawser/zzlaws_internal_binding_b1.FnClosingBraceIgnoresWhatFollows", spec := "fnClosingBraceIgnoresWhatFollows", make := .lifted ["publicsums"], apart := false }
def FnClosingBraceIgnoresWhatFollowsSaid : Prop := fnClosingBraceIgnoresWhatFollowsRow.holds Trym.pinned (OpenSpec.ofChange fnClosingBraceIgnoresWhatFollowsSpec)

/-- ITS FALSE NEIGHBOUR: 'it returns false'. Refute it at one input. -/
def fnClosingBraceIgnoresWhatFollowsWrong : ChangeSpec := { name := "fnClosingBraceIgnoresWhatFollows", fn := fun _ => fun
  | [d1, d2] => { results := [.lit (.bool false)], args := [d1, d2] }
  | _ => none }
def FnClosingBraceIgnoresWhatFollowsWrongFalsely : Prop := fnClosingBraceIgnoresWhatFollowsRow.holds Trym.pinned (OpenSpec.ofChange fnClosingBraceIgnoresWhatFollowsWrong)

/-- 'zzlaws_internal_binding_b1.FnTemplateForPrefersOwnVersionThenWildcard': WHATEVER THE INPUT: true; the input reads as it did. -/
def fnTemplateForPrefersOwnVersionThenWildcardSpec : ChangeSpec := { name := "fnTemplateForPrefersOwnVersionThenWildcard", fn := fun _ => fun
  | [d1, d2] => { results := [.lit (.bool true)], args := [d1, d2] }
  | _ => none }
def fnTemplateForPrefersOwnVersionThenWildcardRow : OpenClaim := { program := "qxb6600428amods", sum := "765051773037bb53a27739b2c0f6345e699fece5f184ed5a30bd7b66b1198ef8", func := "example.com/hawser/hawser/zzlaws_internal_binding_b1.FnTemplateForPrefersOwnVersionThenWildcard", spec := "fnTemplateForPrefersOwnVersionThenWildcard", make := .lifted ["publicsums"], apart := false }
def FnTemplateForPrefersOwnVersionThenWildcardSaid : Prop := fnTemplateForPrefersOwnVersionThenWildcardRow.holds Trym.pinned (OpenSpec.ofChange fnTemplateForPrefersOwnVersionThenWildcardSpec)

/-- ITS FALSE NEIGHBOUR: 'it returns false'. Refute it at one input. -/
def fnTemplateForPrefersOwnVersionThenWildcardWrong : ChangeSpec := { name := "fnTemplateForPrefersOwnVersionThenWildcard", fn := fun _ => fun
  | [d1, d2] => { results := [.lit (.bool false)], args := [d1, d2] }
  | _ => none }
def FnTemplateForPrefersOwnVersionThenWildcardWrongFalsely : Prop := fnTemplateForPrefersOwnVersionThenWildcardRow.holds Trym.pinned (OpenSpec.ofChange fnTemplateForPrefersOwnVersionThenWildcardWrong)

/-- 'zzlaws_internal_binding_b1.FnTemplateForShiftsPastAnUnrelatedTemplate': WHATEVER THE INPUT: true; the input reads as it did. -/
def fnTemplateForShiftsPastAnUnrelatedTemplateSpec : ChangeSpec := { name := "fnTemplateForShiftsPastAnUnrelatedTemplate", fn := fun _ => fun
  | [d1, d2, d3] => { results := [.lit (.bool true)], args := [d1, d2, d3] }
  | _ => none }
def fnTemplateForShiftsPastAnUnrelatedTemplateRow : OpenClaim := { program := "qxb6600428amods", sum := "765051773037bb53a27739b2c0f6345e699fece5f184ed5a30bd7b66b1198ef8", func := "example.com/hawser/hawser/zzlaws_internal_binding_b1.FnTemplateForShiftsPastAnUnrelatedTemplate", spec := "fnTemplateForShiftsPastAnUnrelatedTemplate", make := .lifted ["publicsums"], apart := false }
def FnTemplateForShiftsPastAnUnrelatedTemplateSaid : Prop := fnTemplateForShiftsPastAnUnrelatedTemplateRow.holds Trym.pinned (OpenSpec.ofChange fnTemplateForShiftsPastAnUnrelatedTemplateSpec)

/-- ITS FALSE NEIGHBOUR: 'it returns false'. Refute it at one input. -/
def fnTemplateForShiftsPastAnUnrelatedTemplateWrong : ChangeSpec := { name := "fnTemplateForShiftsPastAnUnrelatedTemplate", fn := fun _ => fun
  | [d1, d2, d3] => { results := [.lit (.bool false)], args := [d1, d2, d3] }
  | _ => none }
def FnTemplateForShiftsPastAnUnrelatedTemplateWrongFalsely : Prop := fnTemplateForShiftsPastAnUnrelatedTemplateRow.holds Trym.pinned (OpenSpec.ofChange fnTemplateForShiftsPastAnUnrelatedTemplateWrong)

end Rows
end Go.Proofs.Qxb6600428aMods
