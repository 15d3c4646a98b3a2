/-
  No cell of these rows narrows 'for every input' (looked for: loops, veiled, ifaces, maps, wideKeys, modest, calm, conditions, laid).
  DERIVED. THE GIVEN ROWS OF THIS SEAT. 2 by the template 'for every input the law returns true; each argument reads behind the call as it read before'; 0 by the template 'total and deterministic' (their statements: Qxb6602749aTotals.lean).
  GIVEN WITH THE SEED: the statements are not yours to turn. If you find one false, say at which input.
  Laid BY PROGRAM, IN A SANDBOX (cutbox-rows.mjs): the forced cells as the released guide's own fill.sh prints them over the translation f651640a57f8e2e6… (all of the seat's roots in one cut). By AI agents, Wed Nov 11 2026. No macro, syntax, notation, axiom, sorry.
-/
import Derived.Test.Qxb6602749aChecked
import GoSem.Claim
import GoSem.ClaimJoined
import GoSem.ClaimMapViews
import Derived.JoinedTies
import Derived.KernelRfl
namespace Go.Proofs.Qxb6602749a
/- THE CELL 'sum', in the pinned program and in every row, IS THE sha256 OF THE DUMP (.gsa) THAT Qxb6602749aProg.lean LOADS. Nothing in Lean hashes anything: it is a label: what it is worth is what the hold of that sum in a sandbox is worth. -/
noncomputable def Try.pinned : Pinned := { name := "qxb6602749a", sum := "f651640a57f8e2e6fc646bc869cb7d82db621fa6f259d23dc5dea97b5640a46c", checked := Try.checked }
namespace Rows
def none {H : Type} : Left H := { results := [], args := [] }

/-- 'zzlaws_postgres_b1.FnValueEndMatchesModel': WHATEVER THE INPUT: true; the input reads as it did. -/
def fnValueEndMatchesModelSpec : ChangeSpec := { name := "fnValueEndMatchesModel", fn := fun _ => fun
  | [d1, d2] => { results := [.lit (.bool true)], args := [d1, d2] }
  | _ => none }
def fnValueEndMatchesModelRow : OpenClaim := { program := "qxb6602749a", sum := "f651640a57f8e2e6fc646bc869cb7d82db621fa6f259d23dc5dea97b5640a46c", func := "example.com/idemp/idemp/zzlaws_postgres_b1.FnValueEndMatchesModel", spec := "fnValueEndMatchesModel", apart := false }
def FnValueEndMatchesModelSaid : Prop := fnValueEndMatchesModelRow.holds Try.pinned (OpenSpec.ofChange fnValueEndMatchesModelSpec)

/-- ITS FALSE NEIGHBOUR: 'it returns false'. Refute it at one input. -/
def fnValueEndMatchesModelWrong : ChangeSpec := { name := "fnValueEndMatchesModel", fn := fun _ => fun
  | [d1, d2] => { results := [.lit (.bool false)], args := [d1, d2] }
  | _ => none }
def FnValueEndMatchesModelWrongFalsely : Prop := fnValueEndMatchesModelRow.holds Try.pinned (OpenSpec.ofChange fnValueEndMatchesModelWrong)

/-- 'zzlaws_postgres_b1.FnValueEndReadsBackWrittenValue': WHATEVER THE INPUT: true; the input reads as it did. -/
def fnValueEndReadsBackWrittenValueSpec : ChangeSpec := { name := "fnValueEndReadsBackWrittenValue", fn := fun _ => fun
  | [d1, d2, d3, d4] => { results := [.lit (.bool true)], args := [d1, d2, d3, d4] }
  | _ => none }
def fnValueEndReadsBackWrittenValueRow : OpenClaim := { program := "qxb6602749a", sum := "f651640a57f8e2e6fc646bc869cb7d82db621fa6f259d23dc5dea97b5640a46c", func := "example.com/idemp/idemp/zzlaws_postgres_b1.FnValueEndReadsBackWrittenValue", spec := "fnValueEndReadsBackWrittenValue", apart := false }
def FnValueEndReadsBackWrittenValueSaid : Prop := fnValueEndReadsBackWrittenValueRow.holds Try.pinned (OpenSpec.ofChange fnValueEndReadsBackWrittenValueSpec)

/-- ITS FALSE NEIGHBOUR: 'it returns false'. Refute it at one input. -/
def fnValueEndReadsBackWrittenValueWrong : ChangeSpec := { name := "fnValueEndReadsBackWrittenValue", fn := fun _ => fun
  | [d1, d2, d3, d4] => { results := [.lit (.bool false)], args := [d1, d2, d3, d4] }
  | _ => none }
def FnValueEndReadsBackWrittenValueWrongFalsely : Prop := fnValueEndReadsBackWrittenValueRow.holds Try.pinned (OpenSpec.ofChange fnValueEndReadsBackWrittenValueWrong)

end Rows
end Go.Proofs.Qxb6602749a
