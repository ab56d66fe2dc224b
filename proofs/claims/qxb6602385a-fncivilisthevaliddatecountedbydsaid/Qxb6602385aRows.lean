/-
  No cell of these rows narrows 'for every input' (looked for: loops, veiled, ifaces, maps, wideKeys, modest, calm, conditions, laid).
  DERIVED. THE GIVEN ROWS OF THIS SEAT. 6 by the template 'for every input the law returns true; each argument reads behind the call as it read before'; 0 by the template 'total and deterministic' (their statements: Qxb6602385aTotals.lean).
  GIVEN WITH THE SEED: the statements are not yours to turn. If you find one false, say at which input.
  Laid BY PROGRAM, IN A SANDBOX (cutbox-rows.mjs): the forced cells as the released guide's own fill.sh prints them over the translation 202c8177df2075b9… (all of the seat's roots in one cut). By AI agents, Wed Nov 11 2026. No macro, syntax, notation, axiom, sorry.
-/
import Derived.Test.Qxb6602385aChecked
import GoSem.Claim
import GoSem.ClaimJoined
import GoSem.ClaimMapViews
import Derived.JoinedTies
import Derived.KernelRfl
namespace Go.Proofs.Qxb6602385a
/- THE CELL 'sum', in the pinned program and in every row, IS THE sha256 OF THE DUMP (.gsa) THAT Qxb6602385aProg.lean LOADS. Nothing in Lean hashes anything: it is a label: what it is worth is what the hold of that sum in a sandbox is worth. -/
noncomputable def Try.pinned : Pinned := { name := "qxb6602385a", sum := "202c8177df2075b94df884ed50bac2b76c2b4fed7befe1829c6a71ab8b6094c0", checked := Try.checked }
namespace Rows
def none {H : Type} : Left H := { results := [], args := [] }

/-- 'zzlaws_date_b1.FnNumberAgreesWithPositionalSum': WHATEVER THE INPUT: true; the input reads as it did. -/
def fnNumberAgreesWithPositionalSumSpec : ChangeSpec := { name := "fnNumberAgreesWithPositionalSum", fn := fun _ => fun
  | [d1, d2, d3] => { results := [.lit (.bool true)], args := [d1, d2, d3] }
  | _ => none }
def fnNumberAgreesWithPositionalSumRow : OpenClaim := { program := "qxb6602385a", sum := "202c8177df2075b94df884ed50bac2b76c2b4fed7befe1829c6a71ab8b6094c0", func := "example.com/zhaomu/zhaomu/zzlaws_date_b1.FnNumberAgreesWithPositionalSum", spec := "fnNumberAgreesWithPositionalSum", apart := false }
def FnNumberAgreesWithPositionalSumSaid : Prop := fnNumberAgreesWithPositionalSumRow.holds Try.pinned (OpenSpec.ofChange fnNumberAgreesWithPositionalSumSpec)

/-- ITS FALSE NEIGHBOUR: 'it returns false'. Refute it at one input. -/
def fnNumberAgreesWithPositionalSumWrong : ChangeSpec := { name := "fnNumberAgreesWithPositionalSum", fn := fun _ => fun
  | [d1, d2, d3] => { results := [.lit (.bool false)], args := [d1, d2, d3] }
  | _ => none }
def FnNumberAgreesWithPositionalSumWrongFalsely : Prop := fnNumberAgreesWithPositionalSumRow.holds Try.pinned (OpenSpec.ofChange fnNumberAgreesWithPositionalSumWrong)

/-- 'zzlaws_date_b1.FnNumberSplitsIntoHeadAndTail': WHATEVER THE INPUT: true; the input reads as it did. -/
def fnNumberSplitsIntoHeadAndTailSpec : ChangeSpec := { name := "fnNumberSplitsIntoHeadAndTail", fn := fun _ => fun
  | [d1, d2, d3, d4] => { results := [.lit (.bool true)], args := [d1, d2, d3, d4] }
  | _ => none }
def fnNumberSplitsIntoHeadAndTailRow : OpenClaim := { program := "qxb6602385a", sum := "202c8177df2075b94df884ed50bac2b76c2b4fed7befe1829c6a71ab8b6094c0", func := "example.com/zhaomu/zhaomu/zzlaws_date_b1.FnNumberSplitsIntoHeadAndTail", spec := "fnNumberSplitsIntoHeadAndTail", apart := false }
def FnNumberSplitsIntoHeadAndTailSaid : Prop := fnNumberSplitsIntoHeadAndTailRow.holds Try.pinned (OpenSpec.ofChange fnNumberSplitsIntoHeadAndTailSpec)

/-- ITS FALSE NEIGHBOUR: 'it returns false'. Refute it at one input. -/
def fnNumberSplitsIntoHeadAndTailWrong : ChangeSpec := { name := "fnNumberSplitsIntoHeadAndTail", fn := fun _ => fun
  | [d1, d2, d3, d4] => { results := [.lit (.bool false)], args := [d1, d2, d3, d4] }
  | _ => none }
def FnNumberSplitsIntoHeadAndTailWrongFalsely : Prop := fnNumberSplitsIntoHeadAndTailRow.holds Try.pinned (OpenSpec.ofChange fnNumberSplitsIntoHeadAndTailWrong)

/-- 'zzlaws_date_b1.FnNumberReadsBackWrittenDecimal': WHATEVER THE INPUT: true; the input reads as it did. -/
def fnNumberReadsBackWrittenDecimalSpec : ChangeSpec := { name := "fnNumberReadsBackWrittenDecimal", fn := fun _ => fun
  | [d1, d2, d3, d4] => { results := [.lit (.bool true)], args := [d1, d2, d3, d4] }
  | _ => none }
def fnNumberReadsBackWrittenDecimalRow : OpenClaim := { program := "qxb6602385a", sum := "202c8177df2075b94df884ed50bac2b76c2b4fed7befe1829c6a71ab8b6094c0", func := "example.com/zhaomu/zhaomu/zzlaws_date_b1.FnNumberReadsBackWrittenDecimal", spec := "fnNumberReadsBackWrittenDecimal", apart := false }
def FnNumberReadsBackWrittenDecimalSaid : Prop := fnNumberReadsBackWrittenDecimalRow.holds Try.pinned (OpenSpec.ofChange fnNumberReadsBackWrittenDecimalSpec)

/-- ITS FALSE NEIGHBOUR: 'it returns false'. Refute it at one input. -/
def fnNumberReadsBackWrittenDecimalWrong : ChangeSpec := { name := "fnNumberReadsBackWrittenDecimal", fn := fun _ => fun
  | [d1, d2, d3, d4] => { results := [.lit (.bool false)], args := [d1, d2, d3, d4] }
  | _ => none }
def FnNumberReadsBackWrittenDecimalWrongFalsely : Prop := fnNumberReadsBackWrittenDecimalRow.holds Try.pinned (OpenSpec.ofChange fnNumberReadsBackWrittenDecimalWrong)

/-- 'zzlaws_date_b1.FnCivilIsTheValidDateCountedByD': WHATEVER THE INPUT: true; the input reads as it did. -/
def fnCivilIsTheValidDateCountedByDSpec : ChangeSpec := { name := "fnCivilIsTheValidDateCountedByD", fn := fun _ => fun
  | [d] => { results := [.lit (.bool true)], args := [d] }
  | _ => none }
def fnCivilIsTheValidDateCountedByDRow : OpenClaim := { program := "qxb6602385a", sum := "202c8177df2075b94df884ed50bac2b76c2b4fed7befe1829c6a71ab8b6094c0", func := "example.com/zhaomu/zhaomu/zzlaws_date_b1.FnCivilIsTheValidDateCountedByD", spec := "fnCivilIsTheValidDateCountedByD", apart := false }
def FnCivilIsTheValidDateCountedByDSaid : Prop := fnCivilIsTheValidDateCountedByDRow.holds Try.pinned (OpenSpec.ofChange fnCivilIsTheValidDateCountedByDSpec)

/-- ITS FALSE NEIGHBOUR: 'it returns false'. Refute it at one input. -/
def fnCivilIsTheValidDateCountedByDWrong : ChangeSpec := { name := "fnCivilIsTheValidDateCountedByD", fn := fun _ => fun
  | [d] => { results := [.lit (.bool false)], args := [d] }
  | _ => none }
def FnCivilIsTheValidDateCountedByDWrongFalsely : Prop := fnCivilIsTheValidDateCountedByDRow.holds Try.pinned (OpenSpec.ofChange fnCivilIsTheValidDateCountedByDWrong)

/-- 'zzlaws_date_b1.FnCivilNextDayIsSuccessor': WHATEVER THE INPUT: true; the input reads as it did. -/
def fnCivilNextDayIsSuccessorSpec : ChangeSpec := { name := "fnCivilNextDayIsSuccessor", fn := fun _ => fun
  | [d] => { results := [.lit (.bool true)], args := [d] }
  | _ => none }
def fnCivilNextDayIsSuccessorRow : OpenClaim := { program := "qxb6602385a", sum := "202c8177df2075b94df884ed50bac2b76c2b4fed7befe1829c6a71ab8b6094c0", func := "example.com/zhaomu/zhaomu/zzlaws_date_b1.FnCivilNextDayIsSuccessor", spec := "fnCivilNextDayIsSuccessor", apart := false }
def FnCivilNextDayIsSuccessorSaid : Prop := fnCivilNextDayIsSuccessorRow.holds Try.pinned (OpenSpec.ofChange fnCivilNextDayIsSuccessorSpec)

/-- ITS FALSE NEIGHBOUR: 'it returns false'. Refute it at one input. -/
def fnCivilNextDayIsSuccessorWrong : ChangeSpec := { name := "fnCivilNextDayIsSuccessor", fn := fun _ => fun
  | [d] => { results := [.lit (.bool false)], args := [d] }
  | _ => none }
def FnCivilNextDayIsSuccessorWrongFalsely : Prop := fnCivilNextDayIsSuccessorRow.holds Try.pinned (OpenSpec.ofChange fnCivilNextDayIsSuccessorWrong)

/-- 'zzlaws_date_b1.FnCivil400YearsLater': WHATEVER THE INPUT: true; the input reads as it did. -/
def fnCivil400YearsLaterSpec : ChangeSpec := { name := "fnCivil400YearsLater", fn := fun _ => fun
  | [d] => { results := [.lit (.bool true)], args := [d] }
  | _ => none }
def fnCivil400YearsLaterRow : OpenClaim := { program := "qxb6602385a", sum := "202c8177df2075b94df884ed50bac2b76c2b4fed7befe1829c6a71ab8b6094c0", func := "example.com/zhaomu/zhaomu/zzlaws_date_b1.FnCivil400YearsLater", spec := "fnCivil400YearsLater", apart := false }
def FnCivil400YearsLaterSaid : Prop := fnCivil400YearsLaterRow.holds Try.pinned (OpenSpec.ofChange fnCivil400YearsLaterSpec)

/-- ITS FALSE NEIGHBOUR: 'it returns false'. Refute it at one input. -/
def fnCivil400YearsLaterWrong : ChangeSpec := { name := "fnCivil400YearsLater", fn := fun _ => fun
  | [d] => { results := [.lit (.bool false)], args := [d] }
  | _ => none }
def FnCivil400YearsLaterWrongFalsely : Prop := fnCivil400YearsLaterRow.holds Try.pinned (OpenSpec.ofChange fnCivil400YearsLaterWrong)

end Rows
end Go.Proofs.Qxb6602385a
