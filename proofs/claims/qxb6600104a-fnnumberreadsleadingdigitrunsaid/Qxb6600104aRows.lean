/-
  No cell of these rows narrows 'for every input' (looked for: loops, veiled, ifaces, maps, wideKeys, modest, calm, conditions, laid).
  DERIVED. THE GIVEN ROWS OF THIS SEAT. 4 by the template 'for every input the law returns true; each argument reads behind the call as it read before'; 0 by the template 'total and deterministic' (their statements: Qxb6600104aTotals.lean).
  GIVEN WITH THE SEED: the statements are not yours to turn. If you find one false, say at which input.
  Laid BY PROGRAM, IN A SANDBOX (cutbox-rows.mjs): the forced cells as the released guide's own fill.sh prints them over the translation 15469d4e218dc61e… (all of the seat's roots in one cut). By AI agents, Wed Nov 11 2026. No macro, syntax, notation, axiom, sorry.
-/
import Derived.Test.Qxb6600104aChecked
import GoSem.Claim
import GoSem.ClaimJoined
import GoSem.ClaimMapViews
import Derived.JoinedTies
import Derived.KernelRfl
namespace Go.Proofs.Qxb6600104a
/- THE CELL 'sum', in the pinned program and in every row, IS THE sha256 OF THE DUMP (.gsa) THAT Qxb6600104aProg.lean LOADS. Nothing in Lean hashes anything: it is a label: what it is worth is what the hold of that sum in a sandbox is worth. -/
noncomputable def Try.pinned : Pinned := { name := "qxb6600104a", sum := "15469d4e218dc61e28e5a1ddb1e6d13d1c7525a63a88c8d3d928cd601df0d082", checked := Try.checked }
namespace Rows
def none {H : Type} : Left H := { results := [], args := [] }

/-- 'zzlaws_internal_posting_b1.FnDigitsValueConcat': WHATEVER THE INPUT: true; the input reads as it did. -/
def fnDigitsValueConcatSpec : ChangeSpec := { name := "fnDigitsValueConcat", fn := fun _ => fun
  | [d1, d2] => { results := [.lit (.bool true)], args := [d1, d2] }
  | _ => none }
def fnDigitsValueConcatRow : OpenClaim := { program := "qxb6600104a", sum := "15469d4e218dc61e28e5a1ddb1e6d13d1c7525a63a88c8d3d928cd601df0d082", func := "example.com/ledgerwright/ledgerwright/zzlaws_internal_posting_b1.FnDigitsValueConcat", spec := "fnDigitsValueConcat", apart := false }
def FnDigitsValueConcatSaid : Prop := fnDigitsValueConcatRow.holds Try.pinned (OpenSpec.ofChange fnDigitsValueConcatSpec)

/-- ITS FALSE NEIGHBOUR: 'it returns false'. Refute it at one input. -/
def fnDigitsValueConcatWrong : ChangeSpec := { name := "fnDigitsValueConcat", fn := fun _ => fun
  | [d1, d2] => { results := [.lit (.bool false)], args := [d1, d2] }
  | _ => none }
def FnDigitsValueConcatWrongFalsely : Prop := fnDigitsValueConcatRow.holds Try.pinned (OpenSpec.ofChange fnDigitsValueConcatWrong)

/-- 'zzlaws_internal_posting_b1.FnDigitsValueOrdersLikeDecimalText': WHATEVER THE INPUT: true; the input reads as it did. -/
def fnDigitsValueOrdersLikeDecimalTextSpec : ChangeSpec := { name := "fnDigitsValueOrdersLikeDecimalText", fn := fun _ => fun
  | [d1, d2] => { results := [.lit (.bool true)], args := [d1, d2] }
  | _ => none }
def fnDigitsValueOrdersLikeDecimalTextRow : OpenClaim := { program := "qxb6600104a", sum := "15469d4e218dc61e28e5a1ddb1e6d13d1c7525a63a88c8d3d928cd601df0d082", func := "example.com/ledgerwright/ledgerwright/zzlaws_internal_posting_b1.FnDigitsValueOrdersLikeDecimalText", spec := "fnDigitsValueOrdersLikeDecimalText", apart := false }
def FnDigitsValueOrdersLikeDecimalTextSaid : Prop := fnDigitsValueOrdersLikeDecimalTextRow.holds Try.pinned (OpenSpec.ofChange fnDigitsValueOrdersLikeDecimalTextSpec)

/-- ITS FALSE NEIGHBOUR: 'it returns false'. Refute it at one input. -/
def fnDigitsValueOrdersLikeDecimalTextWrong : ChangeSpec := { name := "fnDigitsValueOrdersLikeDecimalText", fn := fun _ => fun
  | [d1, d2] => { results := [.lit (.bool false)], args := [d1, d2] }
  | _ => none }
def FnDigitsValueOrdersLikeDecimalTextWrongFalsely : Prop := fnDigitsValueOrdersLikeDecimalTextRow.holds Try.pinned (OpenSpec.ofChange fnDigitsValueOrdersLikeDecimalTextWrong)

/-- 'zzlaws_internal_posting_b1.FnNumberReadsLeadingDigitRun': WHATEVER THE INPUT: true; the input reads as it did. -/
def fnNumberReadsLeadingDigitRunSpec : ChangeSpec := { name := "fnNumberReadsLeadingDigitRun", fn := fun _ => fun
  | [d1, d2, d3] => { results := [.lit (.bool true)], args := [d1, d2, d3] }
  | _ => none }
def fnNumberReadsLeadingDigitRunRow : OpenClaim := { program := "qxb6600104a", sum := "15469d4e218dc61e28e5a1ddb1e6d13d1c7525a63a88c8d3d928cd601df0d082", func := "example.com/ledgerwright/ledgerwright/zzlaws_internal_posting_b1.FnNumberReadsLeadingDigitRun", spec := "fnNumberReadsLeadingDigitRun", apart := false }
def FnNumberReadsLeadingDigitRunSaid : Prop := fnNumberReadsLeadingDigitRunRow.holds Try.pinned (OpenSpec.ofChange fnNumberReadsLeadingDigitRunSpec)

/-- ITS FALSE NEIGHBOUR: 'it returns false'. Refute it at one input. -/
def fnNumberReadsLeadingDigitRunWrong : ChangeSpec := { name := "fnNumberReadsLeadingDigitRun", fn := fun _ => fun
  | [d1, d2, d3] => { results := [.lit (.bool false)], args := [d1, d2, d3] }
  | _ => none }
def FnNumberReadsLeadingDigitRunWrongFalsely : Prop := fnNumberReadsLeadingDigitRunRow.holds Try.pinned (OpenSpec.ofChange fnNumberReadsLeadingDigitRunWrong)

/-- 'zzlaws_internal_posting_b1.FnNumberReadsWhatDecimalWrites': WHATEVER THE INPUT: true; the input reads as it did. -/
def fnNumberReadsWhatDecimalWritesSpec : ChangeSpec := { name := "fnNumberReadsWhatDecimalWrites", fn := fun _ => fun
  | [d1, d2] => { results := [.lit (.bool true)], args := [d1, d2] }
  | _ => none }
def fnNumberReadsWhatDecimalWritesRow : OpenClaim := { program := "qxb6600104a", sum := "15469d4e218dc61e28e5a1ddb1e6d13d1c7525a63a88c8d3d928cd601df0d082", func := "example.com/ledgerwright/ledgerwright/zzlaws_internal_posting_b1.FnNumberReadsWhatDecimalWrites", spec := "fnNumberReadsWhatDecimalWrites", apart := false }
def FnNumberReadsWhatDecimalWritesSaid : Prop := fnNumberReadsWhatDecimalWritesRow.holds Try.pinned (OpenSpec.ofChange fnNumberReadsWhatDecimalWritesSpec)

/-- ITS FALSE NEIGHBOUR: 'it returns false'. Refute it at one input. -/
def fnNumberReadsWhatDecimalWritesWrong : ChangeSpec := { name := "fnNumberReadsWhatDecimalWrites", fn := fun _ => fun
  | [d1, d2] => { results := [.lit (.bool false)], args := [d1, d2] }
  | _ => none }
def FnNumberReadsWhatDecimalWritesWrongFalsely : Prop := fnNumberReadsWhatDecimalWritesRow.holds Try.pinned (OpenSpec.ofChange fnNumberReadsWhatDecimalWritesWrong)

end Rows
end Go.Proofs.Qxb6600104a
