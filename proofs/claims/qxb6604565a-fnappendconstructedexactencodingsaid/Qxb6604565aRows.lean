/-
  No cell of these rows narrows 'for every input' (looked for: loops, veiled, ifaces, maps, wideKeys, modest, calm, conditions, laid).
  DERIVED. THE GIVEN ROWS OF THIS SEAT. 2 by the template 'for every input the law returns true; each argument reads behind the call as it read before'; 0 by the template 'total and deterministic' (their statements: Qxb6604565aTotals.lean).
  GIVEN WITH THE SEED: the statements are not yours to turn. If you find one false, say at which input.
  Laid BY PROGRAM, IN A SANDBOX (cutbox-rows.mjs): the forced cells as the released guide's own fill.sh prints them over the translation fa80db04bf18e508… (all of the seat's roots in one cut). By AI agents, Wed Nov 11 2026. No macro, syntax, notation, axiom, sorry.
-/
import Derived.Test.Qxb6604565aChecked
import GoSem.Claim
import GoSem.ClaimJoined
import GoSem.ClaimMapViews
import Derived.JoinedTies
import Derived.KernelRfl
namespace Go.Proofs.Qxb6604565a
/- THE CELL 'sum', in the pinned program and in every row, IS THE sha256 OF THE DUMP (.gsa) THAT Qxb6604565aProg.lean LOADS. Nothing in Lean hashes anything: it is a label: what it is worth is what the hold of that sum in a sandbox is worth. -/
noncomputable def Try.pinned : Pinned := { name := "qxb6604565a", sum := "fa80db04bf18e5086c1b56b8fd51378bda52dffc83948cf7fab4c2adfd561beb", checked := Try.checked }
namespace Rows
def none {H : Type} : Left H := { results := [], args := [] }

/-- 'zzlaws_ber_b1.FnExplicitExactEncoding': WHATEVER THE INPUT: true; the input reads as it did. -/
def fnExplicitExactEncodingSpec : ChangeSpec := { name := "fnExplicitExactEncoding", fn := fun _ => fun
  | [d1, d2, d3, d4, d5, d6, d7, d8] => { results := [.lit (.bool true)], args := [d1, d2, d3, d4, d5, d6, d7, d8] }
  | _ => none }
def fnExplicitExactEncodingRow : OpenClaim := { program := "qxb6604565a", sum := "fa80db04bf18e5086c1b56b8fd51378bda52dffc83948cf7fab4c2adfd561beb", func := "example.com/tabiji/tabiji/zzlaws_ber_b1.FnExplicitExactEncoding", spec := "fnExplicitExactEncoding", apart := false }
def FnExplicitExactEncodingSaid : Prop := fnExplicitExactEncodingRow.holds Try.pinned (OpenSpec.ofChange fnExplicitExactEncodingSpec)

/-- ITS FALSE NEIGHBOUR: 'it returns false'. Refute it at one input. -/
def fnExplicitExactEncodingWrong : ChangeSpec := { name := "fnExplicitExactEncoding", fn := fun _ => fun
  | [d1, d2, d3, d4, d5, d6, d7, d8] => { results := [.lit (.bool false)], args := [d1, d2, d3, d4, d5, d6, d7, d8] }
  | _ => none }
def FnExplicitExactEncodingWrongFalsely : Prop := fnExplicitExactEncodingRow.holds Try.pinned (OpenSpec.ofChange fnExplicitExactEncodingWrong)

/-- 'zzlaws_ber_b1.FnAppendConstructedExactEncoding': WHATEVER THE INPUT: true; the input reads as it did. -/
def fnAppendConstructedExactEncodingSpec : ChangeSpec := { name := "fnAppendConstructedExactEncoding", fn := fun _ => fun
  | [d1, d2, d3, d4] => { results := [.lit (.bool true)], args := [d1, d2, d3, d4] }
  | _ => none }
def fnAppendConstructedExactEncodingRow : OpenClaim := { program := "qxb6604565a", sum := "fa80db04bf18e5086c1b56b8fd51378bda52dffc83948cf7fab4c2adfd561beb", func := "example.com/tabiji/tabiji/zzlaws_ber_b1.FnAppendConstructedExactEncoding", spec := "fnAppendConstructedExactEncoding", unfollowed := true, recurses := true, apart := false }
def FnAppendConstructedExactEncodingSaid : Prop := fnAppendConstructedExactEncodingRow.holds Try.pinned (OpenSpec.ofChange fnAppendConstructedExactEncodingSpec)

/-- ITS FALSE NEIGHBOUR: 'it returns false'. Refute it at one input. -/
def fnAppendConstructedExactEncodingWrong : ChangeSpec := { name := "fnAppendConstructedExactEncoding", fn := fun _ => fun
  | [d1, d2, d3, d4] => { results := [.lit (.bool false)], args := [d1, d2, d3, d4] }
  | _ => none }
def FnAppendConstructedExactEncodingWrongFalsely : Prop := fnAppendConstructedExactEncodingRow.holds Try.pinned (OpenSpec.ofChange fnAppendConstructedExactEncodingWrong)

end Rows
end Go.Proofs.Qxb6604565a
