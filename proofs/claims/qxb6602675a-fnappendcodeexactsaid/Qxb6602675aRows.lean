/-
  NARROWER THAN 'FOR EVERY INPUT', by the rows' own cells (each row's printed sentence says how): FnAppendCodeExact: maps · FnAppendCodeSupplementaryOrder: maps.
  DERIVED. THE GIVEN ROWS OF THIS SEAT. 4 by the template 'for every input the law returns true; each argument reads behind the call as it read before'; 0 by the template 'total and deterministic' (their statements: Qxb6602675aTotals.lean).
  GIVEN WITH THE SEED: the statements are not yours to turn. If you find one false, say at which input.
  Laid BY PROGRAM, IN A SANDBOX (cutbox-rows.mjs): the forced cells as the released guide's own fill.sh prints them over the translation 745eb587af8aa36b… (all of the seat's roots in one cut). By AI agents, Wed Nov 11 2026. No macro, syntax, notation, axiom, sorry.
-/
import Derived.Test.Qxb6602675aChecked
import GoSem.Claim
import GoSem.ClaimJoined
import GoSem.ClaimMapViews
import Derived.JoinedTies
import Derived.KernelRfl
namespace Go.Proofs.Qxb6602675a
/- THE CELL 'sum', in the pinned program and in every row, IS THE sha256 OF THE DUMP (.gsa) THAT Qxb6602675aProg.lean LOADS. Nothing in Lean hashes anything: it is a label: what it is worth is what the hold of that sum in a sandbox is worth. -/
noncomputable def Try.pinned : Pinned := { name := "qxb6602675a", sum := "745eb587af8aa36b1ccc0c490aa35826d5bcf503382b14341e762b3b6a6b3466", checked := Try.checked }
namespace Rows
def none {H : Type} : Left H := { results := [], args := [] }

/-- 'zzlaws_pkg_figure_b1.FnTimeDigitsExactByLayoutRoundTrip': WHATEVER THE INPUT: true; the input reads as it did. -/
def fnTimeDigitsExactByLayoutRoundTripSpec : ChangeSpec := { name := "fnTimeDigitsExactByLayoutRoundTrip", fn := fun _ => fun
  | [d] => { results := [.lit (.bool true)], args := [d] }
  | _ => none }
def fnTimeDigitsExactByLayoutRoundTripRow : OpenClaim := { program := "qxb6602675a", sum := "745eb587af8aa36b1ccc0c490aa35826d5bcf503382b14341e762b3b6a6b3466", func := "example.com/xunjia/xunjia/zzlaws_pkg_figure_b1.FnTimeDigitsExactByLayoutRoundTrip", spec := "fnTimeDigitsExactByLayoutRoundTrip", apart := false }
def FnTimeDigitsExactByLayoutRoundTripSaid : Prop := fnTimeDigitsExactByLayoutRoundTripRow.holds Try.pinned (OpenSpec.ofChange fnTimeDigitsExactByLayoutRoundTripSpec)

/-- ITS FALSE NEIGHBOUR: 'it returns false'. Refute it at one input. -/
def fnTimeDigitsExactByLayoutRoundTripWrong : ChangeSpec := { name := "fnTimeDigitsExactByLayoutRoundTrip", fn := fun _ => fun
  | [d] => { results := [.lit (.bool false)], args := [d] }
  | _ => none }
def FnTimeDigitsExactByLayoutRoundTripWrongFalsely : Prop := fnTimeDigitsExactByLayoutRoundTripRow.holds Try.pinned (OpenSpec.ofChange fnTimeDigitsExactByLayoutRoundTripWrong)

/-- 'zzlaws_pkg_figure_b1.FnTimeDigitsOrderAgreesWithText': WHATEVER THE INPUT: true; the input reads as it did. -/
def fnTimeDigitsOrderAgreesWithTextSpec : ChangeSpec := { name := "fnTimeDigitsOrderAgreesWithText", fn := fun _ => fun
  | [d1, d2] => { results := [.lit (.bool true)], args := [d1, d2] }
  | _ => none }
def fnTimeDigitsOrderAgreesWithTextRow : OpenClaim := { program := "qxb6602675a", sum := "745eb587af8aa36b1ccc0c490aa35826d5bcf503382b14341e762b3b6a6b3466", func := "example.com/xunjia/xunjia/zzlaws_pkg_figure_b1.FnTimeDigitsOrderAgreesWithText", spec := "fnTimeDigitsOrderAgreesWithText", apart := false }
def FnTimeDigitsOrderAgreesWithTextSaid : Prop := fnTimeDigitsOrderAgreesWithTextRow.holds Try.pinned (OpenSpec.ofChange fnTimeDigitsOrderAgreesWithTextSpec)

/-- ITS FALSE NEIGHBOUR: 'it returns false'. Refute it at one input. -/
def fnTimeDigitsOrderAgreesWithTextWrong : ChangeSpec := { name := "fnTimeDigitsOrderAgreesWithText", fn := fun _ => fun
  | [d1, d2] => { results := [.lit (.bool false)], args := [d1, d2] }
  | _ => none }
def FnTimeDigitsOrderAgreesWithTextWrongFalsely : Prop := fnTimeDigitsOrderAgreesWithTextRow.holds Try.pinned (OpenSpec.ofChange fnTimeDigitsOrderAgreesWithTextWrong)

/-- 'zzlaws_pkg_figure_b1.FnAppendCodeExact': WHATEVER THE INPUT: true; the input reads as it did. -/
def fnAppendCodeExactSpec : ChangeSpec := { name := "fnAppendCodeExact", fn := fun _ => fun
  | [d1, d2, d3, d4] => { results := [.lit (.bool true)], args := [d1, d2, d3, d4] }
  | _ => none }
def fnAppendCodeExactRow : OpenClaim := { program := "qxb6602675a", sum := "745eb587af8aa36b1ccc0c490aa35826d5bcf503382b14341e762b3b6a6b3466", func := "example.com/xunjia/xunjia/zzlaws_pkg_figure_b1.FnAppendCodeExact", spec := "fnAppendCodeExact", maps := true, apart := false }
def FnAppendCodeExactSaid : Prop := fnAppendCodeExactRow.holds Try.pinned (OpenSpec.ofChange fnAppendCodeExactSpec)

/-- ITS FALSE NEIGHBOUR: 'it returns false'. Refute it at one input. -/
def fnAppendCodeExactWrong : ChangeSpec := { name := "fnAppendCodeExact", fn := fun _ => fun
  | [d1, d2, d3, d4] => { results := [.lit (.bool false)], args := [d1, d2, d3, d4] }
  | _ => none }
def FnAppendCodeExactWrongFalsely : Prop := fnAppendCodeExactRow.holds Try.pinned (OpenSpec.ofChange fnAppendCodeExactWrong)

/-- 'zzlaws_pkg_figure_b1.FnAppendCodeSupplementaryOrder': WHATEVER THE INPUT: true; the input reads as it did. -/
def fnAppendCodeSupplementaryOrderSpec : ChangeSpec := { name := "fnAppendCodeSupplementaryOrder", fn := fun _ => fun
  | [d1, d2, d3, d4] => { results := [.lit (.bool true)], args := [d1, d2, d3, d4] }
  | _ => none }
def fnAppendCodeSupplementaryOrderRow : OpenClaim := { program := "qxb6602675a", sum := "745eb587af8aa36b1ccc0c490aa35826d5bcf503382b14341e762b3b6a6b3466", func := "example.com/xunjia/xunjia/zzlaws_pkg_figure_b1.FnAppendCodeSupplementaryOrder", spec := "fnAppendCodeSupplementaryOrder", maps := true, apart := false }
def FnAppendCodeSupplementaryOrderSaid : Prop := fnAppendCodeSupplementaryOrderRow.holds Try.pinned (OpenSpec.ofChange fnAppendCodeSupplementaryOrderSpec)

/-- ITS FALSE NEIGHBOUR: 'it returns false'. Refute it at one input. -/
def fnAppendCodeSupplementaryOrderWrong : ChangeSpec := { name := "fnAppendCodeSupplementaryOrder", fn := fun _ => fun
  | [d1, d2, d3, d4] => { results := [.lit (.bool false)], args := [d1, d2, d3, d4] }
  | _ => none }
def FnAppendCodeSupplementaryOrderWrongFalsely : Prop := fnAppendCodeSupplementaryOrderRow.holds Try.pinned (OpenSpec.ofChange fnAppendCodeSupplementaryOrderWrong)

end Rows
end Go.Proofs.Qxb6602675a
