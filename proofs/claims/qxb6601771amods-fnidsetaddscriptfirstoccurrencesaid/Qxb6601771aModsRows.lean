/-
  NARROWER THAN 'FOR EVERY INPUT', by the rows' own cells (each row's printed sentence says how): FnIdSetAddSpec: maps.
  DERIVED. THE GIVEN ROWS OF THIS SEAT. 5 by the template 'for every input the law returns true; each argument reads behind the call as it read before'; 0 by the template 'total and deterministic' (their statements: Qxb6601771aModsTotals.lean).
  GIVEN WITH THE SEED: the statements are not yours to turn. If you find one false, say at which input.
  Laid BY PROGRAM, IN A SANDBOX (cutbox-rows.mjs): the forced cells as the released guide's own fill.sh prints them over the translation 4fef4e4101fb54c5… (all of the seat's roots in one cut). By AI agents, Wed Nov 11 2026. No macro, syntax, notation, axiom, sorry.
-/
import Derived.Test.Qxb6601771aModsChecked
import GoSem.Claim
import GoSem.ClaimJoined
import GoSem.ClaimMapViews
import Derived.JoinedTies
import Derived.KernelRfl
namespace Go.Proofs.Qxb6601771aMods
/- THE CELL 'sum', in the pinned program and in every row, IS THE sha256 OF THE DUMP (.gsa) THAT Qxb6601771aModsProg.lean LOADS. Nothing in Lean hashes anything: it is a label: what it is worth is what the hold of that sum in a sandbox is worth. -/
noncomputable def Trym.pinned : Pinned := { name := "qxb6601771amods", sum := "4fef4e4101fb54c5ce4c797eb2c4d084f460d2e84a2e9e54602e75916fd54800", checked := Trym.checked }
namespace Rows
def none {H : Type} : Left H := { results := [], args := [] }

/-- 'zzlaws_internal_order_b1.FnPrevailsShortlexSpec': WHATEVER THE INPUT: true; the input reads as it did. -/
def fnPrevailsShortlexSpecSpec : ChangeSpec := { name := "fnPrevailsShortlexSpec", fn := fun _ => fun
  | [d1, d2] => { results := [.lit (.bool true)], args := [d1, d2] }
  | _ => none }
def fnPrevailsShortlexSpecRow : OpenClaim := { program := "qxb6601771amods", sum := "4fef4e4101fb54c5ce4c797eb2c4d084f460d2e84a2e9e54602e75916fd54800", func := "example.com/ordain/ordain/zzlaws_internal_order_b1.FnPrevailsShortlexSpec", spec := "fnPrevailsShortlexSpec", make := .lifted ["publicsums"], apart := false }
def FnPrevailsShortlexSpecSaid : Prop := fnPrevailsShortlexSpecRow.holds Trym.pinned (OpenSpec.ofChange fnPrevailsShortlexSpecSpec)

/-- ITS FALSE NEIGHBOUR: 'it returns false'. Refute it at one input. -/
def fnPrevailsShortlexSpecWrong : ChangeSpec := { name := "fnPrevailsShortlexSpec", fn := fun _ => fun
  | [d1, d2] => { results := [.lit (.bool false)], args := [d1, d2] }
  | _ => none }
def FnPrevailsShortlexSpecWrongFalsely : Prop := fnPrevailsShortlexSpecRow.holds Trym.pinned (OpenSpec.ofChange fnPrevailsShortlexSpecWrong)

/-- 'zzlaws_internal_order_b1.FnPrevailsStrictTotal': WHATEVER THE INPUT: true; the input reads as it did. -/
def fnPrevailsStrictTotalSpec : ChangeSpec := { name := "fnPrevailsStrictTotal", fn := fun _ => fun
  | [d1, d2] => { results := [.lit (.bool true)], args := [d1, d2] }
  | _ => none }
def fnPrevailsStrictTotalRow : OpenClaim := { program := "qxb6601771amods", sum := "4fef4e4101fb54c5ce4c797eb2c4d084f460d2e84a2e9e54602e75916fd54800", func := "example.com/ordain/ordain/zzlaws_internal_order_b1.FnPrevailsStrictTotal", spec := "fnPrevailsStrictTotal", make := .lifted ["publicsums"], apart := false }
def FnPrevailsStrictTotalSaid : Prop := fnPrevailsStrictTotalRow.holds Trym.pinned (OpenSpec.ofChange fnPrevailsStrictTotalSpec)

/-- ITS FALSE NEIGHBOUR: 'it returns false'. Refute it at one input. -/
def fnPrevailsStrictTotalWrong : ChangeSpec := { name := "fnPrevailsStrictTotal", fn := fun _ => fun
  | [d1, d2] => { results := [.lit (.bool false)], args := [d1, d2] }
  | _ => none }
def FnPrevailsStrictTotalWrongFalsely : Prop := fnPrevailsStrictTotalRow.holds Trym.pinned (OpenSpec.ofChange fnPrevailsStrictTotalWrong)

/-- 'zzlaws_internal_order_b1.FnPrevailsTransitive': WHATEVER THE INPUT: true; the input reads as it did. -/
def fnPrevailsTransitiveSpec : ChangeSpec := { name := "fnPrevailsTransitive", fn := fun _ => fun
  | [d1, d2, d3] => { results := [.lit (.bool true)], args := [d1, d2, d3] }
  | _ => none }
def fnPrevailsTransitiveRow : OpenClaim := { program := "qxb6601771amods", sum := "4fef4e4101fb54c5ce4c797eb2c4d084f460d2e84a2e9e54602e75916fd54800", func := "example.com/ordain/ordain/zzlaws_internal_order_b1.FnPrevailsTransitive", spec := "fnPrevailsTransitive", make := .lifted ["publicsums"], apart := false }
def FnPrevailsTransitiveSaid : Prop := fnPrevailsTransitiveRow.holds Trym.pinned (OpenSpec.ofChange fnPrevailsTransitiveSpec)

/-- ITS FALSE NEIGHBOUR: 'it returns false'. Refute it at one input. -/
def fnPrevailsTransitiveWrong : ChangeSpec := { name := "fnPrevailsTransitive", fn := fun _ => fun
  | [d1, d2, d3] => { results := [.lit (.bool false)], args := [d1, d2, d3] }
  | _ => none }
def FnPrevailsTransitiveWrongFalsely : Prop := fnPrevailsTransitiveRow.holds Trym.pinned (OpenSpec.ofChange fnPrevailsTransitiveWrong)

/-- 'zzlaws_internal_order_b1.FnIdSetAddSpec': WHATEVER THE INPUT: true; the input reads as it did. -/
def fnIdSetAddSpecSpec : ChangeSpec := { name := "fnIdSetAddSpec", fn := fun _ => fun
  | [d1, d2, d3] => { results := [.lit (.bool true)], args := [d1, d2, d3] }
  | _ => none }
def fnIdSetAddSpecRow : OpenClaim := { program := "qxb6601771amods", sum := "4fef4e4101fb54c5ce4c797eb2c4d084f460d2e84a2e9e54602e75916fd54800", func := "example.com/ordain/ordain/zzlaws_internal_order_b1.FnIdSetAddSpec", spec := "fnIdSetAddSpec", maps := true, make := .lifted ["publicsums"], apart := false }
def FnIdSetAddSpecSaid : Prop := fnIdSetAddSpecRow.holds Trym.pinned (OpenSpec.ofChange fnIdSetAddSpecSpec)

/-- ITS FALSE NEIGHBOUR: 'it returns false'. Refute it at one input. -/
def fnIdSetAddSpecWrong : ChangeSpec := { name := "fnIdSetAddSpec", fn := fun _ => fun
  | [d1, d2, d3] => { results := [.lit (.bool false)], args := [d1, d2, d3] }
  | _ => none }
def FnIdSetAddSpecWrongFalsely : Prop := fnIdSetAddSpecRow.holds Trym.pinned (OpenSpec.ofChange fnIdSetAddSpecWrong)

/-- 'zzlaws_internal_order_b1.FnIdSetAddScriptFirstOccurrence': WHATEVER THE INPUT: true; the input reads as it did. -/
def fnIdSetAddScriptFirstOccurrenceSpec : ChangeSpec := { name := "fnIdSetAddScriptFirstOccurrence", fn := fun _ => fun
  | [d] => { results := [.lit (.bool true)], args := [d] }
  | _ => none }
def fnIdSetAddScriptFirstOccurrenceRow : OpenClaim := { program := "qxb6601771amods", sum := "4fef4e4101fb54c5ce4c797eb2c4d084f460d2e84a2e9e54602e75916fd54800", func := "example.com/ordain/ordain/zzlaws_internal_order_b1.FnIdSetAddScriptFirstOccurrence", spec := "fnIdSetAddScriptFirstOccurrence", make := .lifted ["publicsums"], apart := false }
def FnIdSetAddScriptFirstOccurrenceSaid : Prop := fnIdSetAddScriptFirstOccurrenceRow.holds Trym.pinned (OpenSpec.ofChange fnIdSetAddScriptFirstOccurrenceSpec)

/-- ITS FALSE NEIGHBOUR: 'it returns false'. Refute it at one input. -/
def fnIdSetAddScriptFirstOccurrenceWrong : ChangeSpec := { name := "fnIdSetAddScriptFirstOccurrence", fn := fun _ => fun
  | [d] => { results := [.lit (.bool false)], args := [d] }
  | _ => none }
def FnIdSetAddScriptFirstOccurrenceWrongFalsely : Prop := fnIdSetAddScriptFirstOccurrenceRow.holds Trym.pinned (OpenSpec.ofChange fnIdSetAddScriptFirstOccurrenceWrong)

end Rows
end Go.Proofs.Qxb6601771aMods
