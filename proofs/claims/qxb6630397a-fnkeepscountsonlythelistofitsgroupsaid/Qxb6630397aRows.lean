/-
  No cell of these rows narrows 'for every input' (looked for: loops, veiled, ifaces, maps, wideKeys, modest, calm, conditions, laid).
  DERIVED. THE GIVEN ROWS OF THIS SEAT. 2 by the template 'for every input the law returns true; each argument reads behind the call as it read before'; 0 by the template 'total and deterministic' (their statements: Qxb6630397aTotals.lean).
  GIVEN WITH THE SEED: the statements are not yours to turn. If you find one false, say at which input.
  Laid BY PROGRAM, IN A SANDBOX (cutbox-rows.mjs): the forced cells as the released guide's own fill.sh prints them over the translation 0881b61f1508bfec… (all of the seat's roots in one cut). By AI agents, Wed Nov 11 2026. No macro, syntax, notation, axiom, sorry.
-/
import Derived.Test.Qxb6630397aChecked
import GoSem.Claim
import GoSem.ClaimJoined
import GoSem.ClaimMapViews
import Derived.JoinedTies
import Derived.KernelRfl
namespace Go.Proofs.Qxb6630397a
/- THE CELL 'sum', in the pinned program and in every row, IS THE sha256 OF THE DUMP (.gsa) THAT Qxb6630397aProg.lean LOADS. Nothing in Lean hashes anything: it is a label: what it is worth is what the hold of that sum in a sandbox is worth. -/
noncomputable def Try.pinned : Pinned := { name := "qxb6630397a", sum := "0881b61f1508bfec8e789590727830f99d733ae55f7d856cfa88ccf494da062c", checked := Try.checked }
namespace Rows
def none {H : Type} : Left H := { results := [], args := [] }

/-- 'zzlaws_pkg_model_b1.FnKeepsAfterPutAndTake': WHATEVER THE INPUT: true; the input reads as it did. -/
def fnKeepsAfterPutAndTakeSpec : ChangeSpec := { name := "fnKeepsAfterPutAndTake", fn := fun _ => fun
  | [d1, d2, d3, d4, d5] => { results := [.lit (.bool true)], args := [d1, d2, d3, d4, d5] }
  | _ => none }
def fnKeepsAfterPutAndTakeRow : OpenClaim := { program := "qxb6630397a", sum := "0881b61f1508bfec8e789590727830f99d733ae55f7d856cfa88ccf494da062c", func := "example.com/killdeer/killdeer/zzlaws_pkg_model_b1.FnKeepsAfterPutAndTake", spec := "fnKeepsAfterPutAndTake", plainKeys := false, apart := false }
def FnKeepsAfterPutAndTakeSaid : Prop := fnKeepsAfterPutAndTakeRow.holds Try.pinned (OpenSpec.ofChange fnKeepsAfterPutAndTakeSpec)

/-- ITS FALSE NEIGHBOUR: 'it returns false'. Refute it at one input. -/
def fnKeepsAfterPutAndTakeWrong : ChangeSpec := { name := "fnKeepsAfterPutAndTake", fn := fun _ => fun
  | [d1, d2, d3, d4, d5] => { results := [.lit (.bool false)], args := [d1, d2, d3, d4, d5] }
  | _ => none }
def FnKeepsAfterPutAndTakeWrongFalsely : Prop := fnKeepsAfterPutAndTakeRow.holds Try.pinned (OpenSpec.ofChange fnKeepsAfterPutAndTakeWrong)

/-- 'zzlaws_pkg_model_b1.FnKeepsCountsOnlyTheListOfItsGroup': WHATEVER THE INPUT: true; the input reads as it did. -/
def fnKeepsCountsOnlyTheListOfItsGroupSpec : ChangeSpec := { name := "fnKeepsCountsOnlyTheListOfItsGroup", fn := fun _ => fun
  | [d1, d2, d3, d4] => { results := [.lit (.bool true)], args := [d1, d2, d3, d4] }
  | _ => none }
def fnKeepsCountsOnlyTheListOfItsGroupRow : OpenClaim := { program := "qxb6630397a", sum := "0881b61f1508bfec8e789590727830f99d733ae55f7d856cfa88ccf494da062c", func := "example.com/killdeer/killdeer/zzlaws_pkg_model_b1.FnKeepsCountsOnlyTheListOfItsGroup", spec := "fnKeepsCountsOnlyTheListOfItsGroup", plainKeys := false, apart := false }
def FnKeepsCountsOnlyTheListOfItsGroupSaid : Prop := fnKeepsCountsOnlyTheListOfItsGroupRow.holds Try.pinned (OpenSpec.ofChange fnKeepsCountsOnlyTheListOfItsGroupSpec)

/-- ITS FALSE NEIGHBOUR: 'it returns false'. Refute it at one input. -/
def fnKeepsCountsOnlyTheListOfItsGroupWrong : ChangeSpec := { name := "fnKeepsCountsOnlyTheListOfItsGroup", fn := fun _ => fun
  | [d1, d2, d3, d4] => { results := [.lit (.bool false)], args := [d1, d2, d3, d4] }
  | _ => none }
def FnKeepsCountsOnlyTheListOfItsGroupWrongFalsely : Prop := fnKeepsCountsOnlyTheListOfItsGroupRow.holds Try.pinned (OpenSpec.ofChange fnKeepsCountsOnlyTheListOfItsGroupWrong)

end Rows
end Go.Proofs.Qxb6630397a
