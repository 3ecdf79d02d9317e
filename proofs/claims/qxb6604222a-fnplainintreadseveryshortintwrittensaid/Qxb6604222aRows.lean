/-
  No cell of these rows narrows 'for every input' (looked for: loops, veiled, ifaces, maps, wideKeys, modest, calm, conditions, laid).
  DERIVED. THE GIVEN ROWS OF THIS SEAT. 5 by the template 'for every input the law returns true; each argument reads behind the call as it read before'; 0 by the template 'total and deterministic' (their statements: Qxb6604222aTotals.lean).
  GIVEN WITH THE SEED: the statements are not yours to turn. If you find one false, say at which input.
  Laid BY PROGRAM, IN A SANDBOX (cutbox-rows.mjs): the forced cells as the released guide's own fill.sh prints them over the translation 86b85276d2865bff… (all of the seat's roots in one cut). By AI agents, Wed Nov 11 2026. No macro, syntax, notation, axiom, sorry.
-/
import Derived.Test.Qxb6604222aChecked
import GoSem.Claim
import GoSem.ClaimJoined
import GoSem.ClaimMapViews
import Derived.JoinedTies
import Derived.KernelRfl
namespace Go.Proofs.Qxb6604222a
/- THE CELL 'sum', in the pinned program and in every row, IS THE sha256 OF THE DUMP (.gsa) THAT Qxb6604222aProg.lean LOADS. Nothing in Lean hashes anything: it is a label: what it is worth is what the hold of that sum in a sandbox is worth. -/
noncomputable def Try.pinned : Pinned := { name := "qxb6604222a", sum := "86b85276d2865bfffa2aa73681163554fdbc79c691de3f5e264eef416c757628", checked := Try.checked }
namespace Rows
def none {H : Type} : Left H := { results := [], args := [] }

/-- 'zzlaws_pkg_cpon_b1.FnPlainIntIsTheDecimalOfAtMost18Digits': WHATEVER THE INPUT: true; the input reads as it did. -/
def fnPlainIntIsTheDecimalOfAtMost18DigitsSpec : ChangeSpec := { name := "fnPlainIntIsTheDecimalOfAtMost18Digits", fn := fun _ => fun
  | [d1, d2] => { results := [.lit (.bool true)], args := [d1, d2] }
  | _ => none }
def fnPlainIntIsTheDecimalOfAtMost18DigitsRow : OpenClaim := { program := "qxb6604222a", sum := "86b85276d2865bfffa2aa73681163554fdbc79c691de3f5e264eef416c757628", func := "example.com/treecall/treecall/zzlaws_pkg_cpon_b1.FnPlainIntIsTheDecimalOfAtMost18Digits", spec := "fnPlainIntIsTheDecimalOfAtMost18Digits", apart := false }
def FnPlainIntIsTheDecimalOfAtMost18DigitsSaid : Prop := fnPlainIntIsTheDecimalOfAtMost18DigitsRow.holds Try.pinned (OpenSpec.ofChange fnPlainIntIsTheDecimalOfAtMost18DigitsSpec)

/-- ITS FALSE NEIGHBOUR: 'it returns false'. Refute it at one input. -/
def fnPlainIntIsTheDecimalOfAtMost18DigitsWrong : ChangeSpec := { name := "fnPlainIntIsTheDecimalOfAtMost18Digits", fn := fun _ => fun
  | [d1, d2] => { results := [.lit (.bool false)], args := [d1, d2] }
  | _ => none }
def FnPlainIntIsTheDecimalOfAtMost18DigitsWrongFalsely : Prop := fnPlainIntIsTheDecimalOfAtMost18DigitsRow.holds Try.pinned (OpenSpec.ofChange fnPlainIntIsTheDecimalOfAtMost18DigitsWrong)

/-- 'zzlaws_pkg_cpon_b1.FnPlainIntReadsEveryShortIntWritten': WHATEVER THE INPUT: true; the input reads as it did. -/
def fnPlainIntReadsEveryShortIntWrittenSpec : ChangeSpec := { name := "fnPlainIntReadsEveryShortIntWritten", fn := fun _ => fun
  | [d] => { results := [.lit (.bool true)], args := [d] }
  | _ => none }
def fnPlainIntReadsEveryShortIntWrittenRow : OpenClaim := { program := "qxb6604222a", sum := "86b85276d2865bfffa2aa73681163554fdbc79c691de3f5e264eef416c757628", func := "example.com/treecall/treecall/zzlaws_pkg_cpon_b1.FnPlainIntReadsEveryShortIntWritten", spec := "fnPlainIntReadsEveryShortIntWritten", apart := false }
def FnPlainIntReadsEveryShortIntWrittenSaid : Prop := fnPlainIntReadsEveryShortIntWrittenRow.holds Try.pinned (OpenSpec.ofChange fnPlainIntReadsEveryShortIntWrittenSpec)

/-- ITS FALSE NEIGHBOUR: 'it returns false'. Refute it at one input. -/
def fnPlainIntReadsEveryShortIntWrittenWrong : ChangeSpec := { name := "fnPlainIntReadsEveryShortIntWritten", fn := fun _ => fun
  | [d] => { results := [.lit (.bool false)], args := [d] }
  | _ => none }
def FnPlainIntReadsEveryShortIntWrittenWrongFalsely : Prop := fnPlainIntReadsEveryShortIntWrittenRow.holds Try.pinned (OpenSpec.ofChange fnPlainIntReadsEveryShortIntWrittenWrong)

/-- 'zzlaws_pkg_cpon_b1.FnDateOfDaysIsTheValidDateThatCountsBack': WHATEVER THE INPUT: true; the input reads as it did. -/
def fnDateOfDaysIsTheValidDateThatCountsBackSpec : ChangeSpec := { name := "fnDateOfDaysIsTheValidDateThatCountsBack", fn := fun _ => fun
  | [d] => { results := [.lit (.bool true)], args := [d] }
  | _ => none }
def fnDateOfDaysIsTheValidDateThatCountsBackRow : OpenClaim := { program := "qxb6604222a", sum := "86b85276d2865bfffa2aa73681163554fdbc79c691de3f5e264eef416c757628", func := "example.com/treecall/treecall/zzlaws_pkg_cpon_b1.FnDateOfDaysIsTheValidDateThatCountsBack", spec := "fnDateOfDaysIsTheValidDateThatCountsBack", apart := false }
def FnDateOfDaysIsTheValidDateThatCountsBackSaid : Prop := fnDateOfDaysIsTheValidDateThatCountsBackRow.holds Try.pinned (OpenSpec.ofChange fnDateOfDaysIsTheValidDateThatCountsBackSpec)

/-- ITS FALSE NEIGHBOUR: 'it returns false'. Refute it at one input. -/
def fnDateOfDaysIsTheValidDateThatCountsBackWrong : ChangeSpec := { name := "fnDateOfDaysIsTheValidDateThatCountsBack", fn := fun _ => fun
  | [d] => { results := [.lit (.bool false)], args := [d] }
  | _ => none }
def FnDateOfDaysIsTheValidDateThatCountsBackWrongFalsely : Prop := fnDateOfDaysIsTheValidDateThatCountsBackRow.holds Try.pinned (OpenSpec.ofChange fnDateOfDaysIsTheValidDateThatCountsBackWrong)

/-- 'zzlaws_pkg_cpon_b1.FnDateOfDaysNextDayIsNextDate': WHATEVER THE INPUT: true; the input reads as it did. -/
def fnDateOfDaysNextDayIsNextDateSpec : ChangeSpec := { name := "fnDateOfDaysNextDayIsNextDate", fn := fun _ => fun
  | [d] => { results := [.lit (.bool true)], args := [d] }
  | _ => none }
def fnDateOfDaysNextDayIsNextDateRow : OpenClaim := { program := "qxb6604222a", sum := "86b85276d2865bfffa2aa73681163554fdbc79c691de3f5e264eef416c757628", func := "example.com/treecall/treecall/zzlaws_pkg_cpon_b1.FnDateOfDaysNextDayIsNextDate", spec := "fnDateOfDaysNextDayIsNextDate", apart := false }
def FnDateOfDaysNextDayIsNextDateSaid : Prop := fnDateOfDaysNextDayIsNextDateRow.holds Try.pinned (OpenSpec.ofChange fnDateOfDaysNextDayIsNextDateSpec)

/-- ITS FALSE NEIGHBOUR: 'it returns false'. Refute it at one input. -/
def fnDateOfDaysNextDayIsNextDateWrong : ChangeSpec := { name := "fnDateOfDaysNextDayIsNextDate", fn := fun _ => fun
  | [d] => { results := [.lit (.bool false)], args := [d] }
  | _ => none }
def FnDateOfDaysNextDayIsNextDateWrongFalsely : Prop := fnDateOfDaysNextDayIsNextDateRow.holds Try.pinned (OpenSpec.ofChange fnDateOfDaysNextDayIsNextDateWrong)

/-- 'zzlaws_pkg_cpon_b1.FnDateOfDaysRepeatsEvery400Years': WHATEVER THE INPUT: true; the input reads as it did. -/
def fnDateOfDaysRepeatsEvery400YearsSpec : ChangeSpec := { name := "fnDateOfDaysRepeatsEvery400Years", fn := fun _ => fun
  | [d] => { results := [.lit (.bool true)], args := [d] }
  | _ => none }
def fnDateOfDaysRepeatsEvery400YearsRow : OpenClaim := { program := "qxb6604222a", sum := "86b85276d2865bfffa2aa73681163554fdbc79c691de3f5e264eef416c757628", func := "example.com/treecall/treecall/zzlaws_pkg_cpon_b1.FnDateOfDaysRepeatsEvery400Years", spec := "fnDateOfDaysRepeatsEvery400Years", apart := false }
def FnDateOfDaysRepeatsEvery400YearsSaid : Prop := fnDateOfDaysRepeatsEvery400YearsRow.holds Try.pinned (OpenSpec.ofChange fnDateOfDaysRepeatsEvery400YearsSpec)

/-- ITS FALSE NEIGHBOUR: 'it returns false'. Refute it at one input. -/
def fnDateOfDaysRepeatsEvery400YearsWrong : ChangeSpec := { name := "fnDateOfDaysRepeatsEvery400Years", fn := fun _ => fun
  | [d] => { results := [.lit (.bool false)], args := [d] }
  | _ => none }
def FnDateOfDaysRepeatsEvery400YearsWrongFalsely : Prop := fnDateOfDaysRepeatsEvery400YearsRow.holds Try.pinned (OpenSpec.ofChange fnDateOfDaysRepeatsEvery400YearsWrong)

end Rows
end Go.Proofs.Qxb6604222a
