/-
  No cell of these rows narrows 'for every input' (looked for: loops, veiled, ifaces, maps, wideKeys, modest, calm, conditions, laid).
  DERIVED. THE GIVEN ROWS OF THIS SEAT. 2 by the template 'for every input the law returns true; each argument reads behind the call as it read before'; 0 by the template 'total and deterministic' (their statements: Qxb6631253aTotals.lean).
  GIVEN WITH THE SEED: the statements are not yours to turn. If you find one false, say at which input.
  Laid BY PROGRAM, IN A SANDBOX (cutbox-rows.mjs): the forced cells as the released guide's own fill.sh prints them over the translation 95f171e857ead28e… (all of the seat's roots in one cut). By AI agents, Wed Nov 11 2026. No macro, syntax, notation, axiom, sorry.
-/
import Derived.Test.Qxb6631253aChecked
import GoSem.Claim
import GoSem.ClaimJoined
import GoSem.ClaimMapViews
import Derived.JoinedTies
import Derived.KernelRfl
namespace Go.Proofs.Qxb6631253a
/- THE CELL 'sum', in the pinned program and in every row, IS THE sha256 OF THE DUMP (.gsa) THAT Qxb6631253aProg.lean LOADS. Nothing in Lean hashes anything: it is a label: what it is worth is what the hold of that sum in a sandbox is worth. -/
noncomputable def Try.pinned : Pinned := { name := "qxb6631253a", sum := "95f171e857ead28e2af55d79844d7de9899b0963aaf551834a6ab2c10e3cc97e", checked := Try.checked }
namespace Rows
def none {H : Type} : Left H := { results := [], args := [] }

/-- 'zzlaws_radius_b1.FnEAPMessageSplitsAtFullChunks': WHATEVER THE INPUT: true; the input reads as it did. -/
def fnEAPMessageSplitsAtFullChunksSpec : ChangeSpec := { name := "fnEAPMessageSplitsAtFullChunks", fn := fun _ => fun
  | [d1, d2] => { results := [.lit (.bool true)], args := [d1, d2] }
  | _ => none }
def fnEAPMessageSplitsAtFullChunksRow : OpenClaim := { program := "qxb6631253a", sum := "95f171e857ead28e2af55d79844d7de9899b0963aaf551834a6ab2c10e3cc97e", func := "example.com/sigillum/sigillum/zzlaws_radius_b1.FnEAPMessageSplitsAtFullChunks", spec := "fnEAPMessageSplitsAtFullChunks", apart := false }
def FnEAPMessageSplitsAtFullChunksSaid : Prop := fnEAPMessageSplitsAtFullChunksRow.holds Try.pinned (OpenSpec.ofChange fnEAPMessageSplitsAtFullChunksSpec)

/-- ITS FALSE NEIGHBOUR: 'it returns false'. Refute it at one input. -/
def fnEAPMessageSplitsAtFullChunksWrong : ChangeSpec := { name := "fnEAPMessageSplitsAtFullChunks", fn := fun _ => fun
  | [d1, d2] => { results := [.lit (.bool false)], args := [d1, d2] }
  | _ => none }
def FnEAPMessageSplitsAtFullChunksWrongFalsely : Prop := fnEAPMessageSplitsAtFullChunksRow.holds Try.pinned (OpenSpec.ofChange fnEAPMessageSplitsAtFullChunksWrong)

/-- 'zzlaws_radius_b1.FnEAPMessageAppendOneByte': WHATEVER THE INPUT: true; the input reads as it did. -/
def fnEAPMessageAppendOneByteSpec : ChangeSpec := { name := "fnEAPMessageAppendOneByte", fn := fun _ => fun
  | [d1, d2] => { results := [.lit (.bool true)], args := [d1, d2] }
  | _ => none }
def fnEAPMessageAppendOneByteRow : OpenClaim := { program := "qxb6631253a", sum := "95f171e857ead28e2af55d79844d7de9899b0963aaf551834a6ab2c10e3cc97e", func := "example.com/sigillum/sigillum/zzlaws_radius_b1.FnEAPMessageAppendOneByte", spec := "fnEAPMessageAppendOneByte", apart := false }
def FnEAPMessageAppendOneByteSaid : Prop := fnEAPMessageAppendOneByteRow.holds Try.pinned (OpenSpec.ofChange fnEAPMessageAppendOneByteSpec)

/-- ITS FALSE NEIGHBOUR: 'it returns false'. Refute it at one input. -/
def fnEAPMessageAppendOneByteWrong : ChangeSpec := { name := "fnEAPMessageAppendOneByte", fn := fun _ => fun
  | [d1, d2] => { results := [.lit (.bool false)], args := [d1, d2] }
  | _ => none }
def FnEAPMessageAppendOneByteWrongFalsely : Prop := fnEAPMessageAppendOneByteRow.holds Try.pinned (OpenSpec.ofChange fnEAPMessageAppendOneByteWrong)

end Rows
end Go.Proofs.Qxb6631253a
