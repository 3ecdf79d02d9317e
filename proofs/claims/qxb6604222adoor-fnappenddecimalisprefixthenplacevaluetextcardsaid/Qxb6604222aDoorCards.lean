/-
  DERIVED. GIVEN WITH THE SEED: THE CARDS: each row of Qxb6604222aDoorRows.lean that lists a variable, with what it lists TIED to the program's text (the seventh form; the later family's looks); each row that meets fmt, with fmt's text TOLD by the authors' own Lean function (tested against real Go, not proved from fmt's source: count such statements apart). THE CARD IS WHAT COUNTS. Prove the row's statement (the work); the ties are given (Qxb6604222aDoorTie.lean); close each card by the builder's one call (the guide's Derived/Test/ToyasCard.lean, 'card_holds'). Laid BY PROGRAM, IN A SANDBOX (cutbox-door.mjs). By AI agents, Wed Nov 11 2026. No macro, syntax, notation, axiom, sorry.
-/
import Derived.Test.Qxb6604222aDoorRows
import GoSem.ClaimSeven
namespace Go.Proofs.Qxb6604222aDoor
namespace Rows

/-- THE TIED CARD OF 'zzlaws_pkg_cpon_b1.FnAppendDecimalIsPrefixThenPlaceValueText'. -/
def fnAppendDecimalIsPrefixThenPlaceValueTextCard : Claim7 := { stood := { row := fnAppendDecimalIsPrefixThenPlaceValueTextRow, standIns := [], harness := (true, "76c710d9add08547641bf4d29b0b9cb1bb5167850be0ef59ecbc9d4a23d597a7"), looks := false }, kinds := [], alts := [], laidByText := true, laidKinds := [.data, .data, .data], laidTests := true, laidLooks := .later }
def FnAppendDecimalIsPrefixThenPlaceValueTextCardSaid : Prop := Claim7.holds Tryd.pinned (.plain (OpenSpec.ofChange fnAppendDecimalIsPrefixThenPlaceValueTextSpec)) fnAppendDecimalIsPrefixThenPlaceValueTextCard

/-- THE TIED CARD OF 'zzlaws_pkg_cpon_b1.FnAppendDecimalNegativeIsMinusThenPositive'. -/
def fnAppendDecimalNegativeIsMinusThenPositiveCard : Claim7 := { stood := { row := fnAppendDecimalNegativeIsMinusThenPositiveRow, standIns := [], harness := (true, "76c710d9add08547641bf4d29b0b9cb1bb5167850be0ef59ecbc9d4a23d597a7"), looks := false }, kinds := [], alts := [], laidByText := true, laidKinds := [.data, .data, .data], laidTests := true, laidLooks := .later }
def FnAppendDecimalNegativeIsMinusThenPositiveCardSaid : Prop := Claim7.holds Tryd.pinned (.plain (OpenSpec.ofChange fnAppendDecimalNegativeIsMinusThenPositiveSpec)) fnAppendDecimalNegativeIsMinusThenPositiveCard
end Rows
end Go.Proofs.Qxb6604222aDoor
