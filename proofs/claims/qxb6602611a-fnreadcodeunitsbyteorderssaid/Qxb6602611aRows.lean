/-
  No cell of these rows narrows 'for every input' (looked for: loops, veiled, ifaces, maps, wideKeys, modest, calm, conditions, laid).
  DERIVED. THE GIVEN ROWS OF THIS SEAT. 2 by the template 'for every input the law returns true; each argument reads behind the call as it read before'; 0 by the template 'total and deterministic' (their statements: Qxb6602611aTotals.lean).
  GIVEN WITH THE SEED: the statements are not yours to turn. If you find one false, say at which input.
  Laid BY PROGRAM, IN A SANDBOX (cutbox-rows.mjs): the forced cells as the released guide's own fill.sh prints them over the translation 71dbceec562d4fe7… (all of the seat's roots in one cut). By AI agents, Wed Nov 11 2026. No macro, syntax, notation, axiom, sorry.
-/
import Derived.Test.Qxb6602611aChecked
import GoSem.Claim
import GoSem.ClaimJoined
import GoSem.ClaimMapViews
import Derived.JoinedTies
import Derived.KernelRfl
namespace Go.Proofs.Qxb6602611a
/- THE CELL 'sum', in the pinned program and in every row, IS THE sha256 OF THE DUMP (.gsa) THAT Qxb6602611aProg.lean LOADS. Nothing in Lean hashes anything: it is a label: what it is worth is what the hold of that sum in a sandbox is worth. -/
noncomputable def Try.pinned : Pinned := { name := "qxb6602611a", sum := "71dbceec562d4fe78ca72fcc814e1d38ec4b550015b833c803f763c5c70249dc", checked := Try.checked }
namespace Rows
def none {H : Type} : Left H := { results := [], args := [] }

/-- 'zzlaws_internal_flagset_b1.FnReadCodeUnitsSpec': WHATEVER THE INPUT: true; the input reads as it did. -/
def fnReadCodeUnitsSpecSpec : ChangeSpec := { name := "fnReadCodeUnitsSpec", fn := fun _ => fun
  | [d] => { results := [.lit (.bool true)], args := [d] }
  | _ => none }
def fnReadCodeUnitsSpecRow : OpenClaim := { program := "qxb6602611a", sum := "71dbceec562d4fe78ca72fcc814e1d38ec4b550015b833c803f763c5c70249dc", func := "example.com/toggle-logic/toggle-logic/zzlaws_internal_flagset_b1.FnReadCodeUnitsSpec", spec := "fnReadCodeUnitsSpec", apart := false }
def FnReadCodeUnitsSpecSaid : Prop := fnReadCodeUnitsSpecRow.holds Try.pinned (OpenSpec.ofChange fnReadCodeUnitsSpecSpec)

/-- ITS FALSE NEIGHBOUR: 'it returns false'. Refute it at one input. -/
def fnReadCodeUnitsSpecWrong : ChangeSpec := { name := "fnReadCodeUnitsSpec", fn := fun _ => fun
  | [d] => { results := [.lit (.bool false)], args := [d] }
  | _ => none }
def FnReadCodeUnitsSpecWrongFalsely : Prop := fnReadCodeUnitsSpecRow.holds Try.pinned (OpenSpec.ofChange fnReadCodeUnitsSpecWrong)

/-- 'zzlaws_internal_flagset_b1.FnReadCodeUnitsByteOrders': WHATEVER THE INPUT: true; the input reads as it did. -/
def fnReadCodeUnitsByteOrdersSpec : ChangeSpec := { name := "fnReadCodeUnitsByteOrders", fn := fun _ => fun
  | [d] => { results := [.lit (.bool true)], args := [d] }
  | _ => none }
def fnReadCodeUnitsByteOrdersRow : OpenClaim := { program := "qxb6602611a", sum := "71dbceec562d4fe78ca72fcc814e1d38ec4b550015b833c803f763c5c70249dc", func := "example.com/toggle-logic/toggle-logic/zzlaws_internal_flagset_b1.FnReadCodeUnitsByteOrders", spec := "fnReadCodeUnitsByteOrders", apart := false }
def FnReadCodeUnitsByteOrdersSaid : Prop := fnReadCodeUnitsByteOrdersRow.holds Try.pinned (OpenSpec.ofChange fnReadCodeUnitsByteOrdersSpec)

/-- ITS FALSE NEIGHBOUR: 'it returns false'. Refute it at one input. -/
def fnReadCodeUnitsByteOrdersWrong : ChangeSpec := { name := "fnReadCodeUnitsByteOrders", fn := fun _ => fun
  | [d] => { results := [.lit (.bool false)], args := [d] }
  | _ => none }
def FnReadCodeUnitsByteOrdersWrongFalsely : Prop := fnReadCodeUnitsByteOrdersRow.holds Try.pinned (OpenSpec.ofChange fnReadCodeUnitsByteOrdersWrong)

end Rows
end Go.Proofs.Qxb6602611a
