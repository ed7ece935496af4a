/-
  No cell of these rows narrows 'for every input' (looked for: loops, veiled, ifaces, maps, wideKeys, modest, calm, conditions, laid).
  DERIVED. THE GIVEN ROWS OF THIS SEAT. 2 by the template 'for every input the law returns true; each argument reads behind the call as it read before'; 0 by the template 'total and deterministic' (their statements: Qxb6630445aTotals.lean).
  GIVEN WITH THE SEED: the statements are not yours to turn. If you find one false, say at which input.
  Laid BY PROGRAM, IN A SANDBOX (cutbox-rows.mjs): the forced cells as the released guide's own fill.sh prints them over the translation 177fcead39e6db38… (all of the seat's roots in one cut). By AI agents, Wed Nov 11 2026. No macro, syntax, notation, axiom, sorry.
-/
import Derived.Test.Qxb6630445aChecked
import GoSem.Claim
import GoSem.ClaimJoined
import GoSem.ClaimMapViews
import Derived.JoinedTies
import Derived.KernelRfl
namespace Go.Proofs.Qxb6630445a
/- THE CELL 'sum', in the pinned program and in every row, IS THE sha256 OF THE DUMP (.gsa) THAT Qxb6630445aProg.lean LOADS. Nothing in Lean hashes anything: it is a label: what it is worth is what the hold of that sum in a sandbox is worth. -/
noncomputable def Try.pinned : Pinned := { name := "qxb6630445a", sum := "177fcead39e6db3888986a6f4044f1fe1a77c599e79588e300eb23c2c2946c70", checked := Try.checked }
namespace Rows
def none {H : Type} : Left H := { results := [], args := [] }

/-- 'zzlaws_pkg_token_b1.FnBoundRenewalTimeLatestAndJitterWindow': WHATEVER THE INPUT: true; the input reads as it did. -/
def fnBoundRenewalTimeLatestAndJitterWindowSpec : ChangeSpec := { name := "fnBoundRenewalTimeLatestAndJitterWindow", fn := fun _ => fun
  | [d1, d2, d3, d4] => { results := [.lit (.bool true)], args := [d1, d2, d3, d4] }
  | _ => none }
def fnBoundRenewalTimeLatestAndJitterWindowRow : OpenClaim := { program := "qxb6630445a", sum := "177fcead39e6db3888986a6f4044f1fe1a77c599e79588e300eb23c2c2946c70", func := "example.com/tokenwright/tokenwright/zzlaws_pkg_token_b1.FnBoundRenewalTimeLatestAndJitterWindow", spec := "fnBoundRenewalTimeLatestAndJitterWindow", apart := false }
def FnBoundRenewalTimeLatestAndJitterWindowSaid : Prop := fnBoundRenewalTimeLatestAndJitterWindowRow.holds Try.pinned (OpenSpec.ofChange fnBoundRenewalTimeLatestAndJitterWindowSpec)

/-- ITS FALSE NEIGHBOUR: 'it returns false'. Refute it at one input. -/
def fnBoundRenewalTimeLatestAndJitterWindowWrong : ChangeSpec := { name := "fnBoundRenewalTimeLatestAndJitterWindow", fn := fun _ => fun
  | [d1, d2, d3, d4] => { results := [.lit (.bool false)], args := [d1, d2, d3, d4] }
  | _ => none }
def FnBoundRenewalTimeLatestAndJitterWindowWrongFalsely : Prop := fnBoundRenewalTimeLatestAndJitterWindowRow.holds Try.pinned (OpenSpec.ofChange fnBoundRenewalTimeLatestAndJitterWindowWrong)

/-- 'zzlaws_pkg_token_b1.FnBoundRenewalTimeShiftAndOrder': WHATEVER THE INPUT: true; the input reads as it did. -/
def fnBoundRenewalTimeShiftAndOrderSpec : ChangeSpec := { name := "fnBoundRenewalTimeShiftAndOrder", fn := fun _ => fun
  | [d1, d2, d3, d4, d5, d6, d7] => { results := [.lit (.bool true)], args := [d1, d2, d3, d4, d5, d6, d7] }
  | _ => none }
def fnBoundRenewalTimeShiftAndOrderRow : OpenClaim := { program := "qxb6630445a", sum := "177fcead39e6db3888986a6f4044f1fe1a77c599e79588e300eb23c2c2946c70", func := "example.com/tokenwright/tokenwright/zzlaws_pkg_token_b1.FnBoundRenewalTimeShiftAndOrder", spec := "fnBoundRenewalTimeShiftAndOrder", apart := false }
def FnBoundRenewalTimeShiftAndOrderSaid : Prop := fnBoundRenewalTimeShiftAndOrderRow.holds Try.pinned (OpenSpec.ofChange fnBoundRenewalTimeShiftAndOrderSpec)

/-- ITS FALSE NEIGHBOUR: 'it returns false'. Refute it at one input. -/
def fnBoundRenewalTimeShiftAndOrderWrong : ChangeSpec := { name := "fnBoundRenewalTimeShiftAndOrder", fn := fun _ => fun
  | [d1, d2, d3, d4, d5, d6, d7] => { results := [.lit (.bool false)], args := [d1, d2, d3, d4, d5, d6, d7] }
  | _ => none }
def FnBoundRenewalTimeShiftAndOrderWrongFalsely : Prop := fnBoundRenewalTimeShiftAndOrderRow.holds Try.pinned (OpenSpec.ofChange fnBoundRenewalTimeShiftAndOrderWrong)

end Rows
end Go.Proofs.Qxb6630445a
