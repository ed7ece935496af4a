/-
  FnKeepsCountsOnlyTheListOfItsGroup: the proof of the given row. The frame is the kit's skeleton, turned to this statement's arguments.
-/
import Derived.Test.Qxb6630397aCou
import Derived.Test.Qxb6630397aDwn
import Derived.Test.Qxb6630397aRows
import Derived.WalkKit
import Derived.ProofKit
import Derived.OpenShut
import Derived.ShutString
import Derived.ChangeOld
import Derived.Below
namespace Go.Proofs.Qxb6630397a.fnKeepsCountsOnlyTheListOfItsGroup
open Go.ChangeShapes Go.WideShapes Go.ChangeAt Go.RowKit
set_option linter.unusedVariables false

theorem own : ownKnob Try.prog.godebug = none := by kernel_rfl
theorem laidOut : laidOutB Try.prog = true := by kernel_rfl

set_option maxRecDepth 100000 in
set_option maxHeartbeats 4000000 in
theorem lifted (os : Os) (started : os.Started) (H : Type) (enc : TypeId × Value → H) :
    ReturnsInHanded {} Try.checked os 4 .any (Rows.fnKeepsCountsOnlyTheListOfItsGroupSpec.pre6 enc Try.prog Try.f4 Rows.fnKeepsCountsOnlyTheListOfItsGroupRow.domain false) (Rows.fnKeepsCountsOnlyTheListOfItsGroupSpec.post enc Try.prog Try.f4 false true false false) := by
  refine returnsInHanded_of_change (C := Try.checked) own started (by kernel_rfl) Try.func4
    (ChangeSpec.witness6 (enc := enc) (C := Try.checked) false ⟨#[], #[.slice none 0 0, .slice none 0 0, .slice none 0 0, .agg #[.string ByteArray.empty, .int .i64 0, .int .i64 0, .string ByteArray.empty, .string ByteArray.empty, .string ByteArray.empty, .bool false]], []⟩ 8 (by kernel_rfl) (by kernel_rfl) (by kernel_rfl) (by kernel_rfl)) ?_
  intro W base args ds gs before hval0 hW hcnd _
  have hval : ∀ (j : Nat) t v, Try.f4.params[j]? = some t → args[j]? = some v → Value.okWide Try.prog W .any base t v := hval0
  have hW' := hW
  obtain ⟨p, q, hA0, hV, rfl, hfz, hnd⟩ := hW
  have hA : DataW.TrodAll enc Try.prog W 0 (fun _ => true) true Try.f4.params.toList args.toList ds p := hA0
  rw [Try.params4] at hA hval
  obtain ⟨v0, vs0, d0, ds0, p0, q0, hargs, rfl, rfl, h0, r0⟩ := trodAll_cons hA
  obtain ⟨v1, vs1, d1, ds1, p1, q1, rfl, rfl, rfl, h1, r1⟩ := trodAll_cons r0
  obtain ⟨v2, vs2, d2, ds2, p2, q2, rfl, rfl, rfl, h2, r2⟩ := trodAll_cons r1
  obtain ⟨v3, vs3, d3, ds3, p3, q3, rfl, rfl, rfl, h3, r3⟩ := trodAll_cons r2
  obtain ⟨rfl, rfl, rfl⟩ := trodAll_nil r3
  obtain rfl : args = #[v0, v1, v2, v3] := by cases args; simp_all
  obtain ⟨rfl, rfl⟩ := trodVars_none hV
  have k0 := h0
  have lt0 : ∀ x ∈ p0, x.block < W.heap.size := by obtain ⟨m, hm⟩ := k0; exact DataW.trod_lt m _ _ _ hm
  have k1 := h1
  have lt1 : ∀ x ∈ p1, x.block < W.heap.size := by obtain ⟨m, hm⟩ := k1; exact DataW.trod_lt m _ _ _ hm
  have k2 := h2
  have lt2 : ∀ x ∈ p2, x.block < W.heap.size := by obtain ⟨m, hm⟩ := k2; exact DataW.trod_lt m _ _ _ hm
  have k3 := h3
  have lt3 : ∀ x ∈ p3, x.block < W.heap.size := by obtain ⟨m, hm⟩ := k3; exact DataW.trod_lt m _ _ _ hm
  obtain ⟨a0, len0, cap0, rfl⟩ := okWide_slice Try.underlying22 (hval 0 22 v0 rfl rfl)
  obtain ⟨fu0, hf0⟩ := h0
  obtain ⟨b0, e0, c0, hv0, hl0, ho0, hr0⟩ := down22 hf0
  cases hv0
  obtain ⟨a1, len1, cap1, rfl⟩ := okWide_slice Try.underlying23 (hval 1 23 v1 rfl rfl)
  obtain ⟨fu1, hf1⟩ := h1
  obtain ⟨b1, e1, c1, hv1, hl1, ho1, hr1⟩ := down23 hf1
  cases hv1
  obtain ⟨a2, len2, cap2, rfl⟩ := okWide_slice Try.underlying23 (hval 2 23 v2 rfl rfl)
  obtain ⟨fu2, hf2⟩ := h2
  obtain ⟨b2, e2, c2, hv2, hl2, ho2, hr2⟩ := down23 hf2
  cases hv2
  obtain ⟨cs3, rfl, _⟩ := okWide_struct Try.underlying25 (hval 3 25 v3 rfl rfl)
  obtain ⟨fu3, hf3⟩ := h3
  obtain ⟨s3, hs3, hc3⟩ := down25 hf3
  obtain rfl : cs3 = #[.string s3.f, .int .i64 s3.l, .int .i64 s3.e, .string s3.g, .string s3.o, .string s3.v, .bool s3.h] := by cases cs3; simpa [Value.cells] using hc3
  clear hA0 hval0
  refine (countsOnly_any a0 a1 a2 cap0 cap1 cap2 e0 e1 e2 s3 hl0 hl1 hl2 ho0 ho1 ho2 hs3 W hr0 hr1 hr2).mono fun e W' ⟨he, bel⟩ => ?_
  subst he
  exact ⟨_, rfl, _, _, _, [], _, [], hW', trodAll_mk1 (shut_bool Try.underlying4 _), (trodAll_cons_mk (Below.trod laidOut (by kernel_rfl) (of_decide_eq_true (by kernel_rfl)) k0 bel lt0) (trodAll_cons_mk (Below.trod laidOut (by kernel_rfl) (of_decide_eq_true (by kernel_rfl)) k1 bel lt1) (trodAll_cons_mk (Below.trod laidOut (by kernel_rfl) (of_decide_eq_true (by kernel_rfl)) k2 bel lt2) (trodAll_cons_mk (Below.trod laidOut (by kernel_rfl) (of_decide_eq_true (by kernel_rfl)) k3 bel lt3) trodAll_mk0)))), rfl, bel.frame _, fun h => by cases h⟩

theorem over : Rows.fnKeepsCountsOnlyTheListOfItsGroupRow.holds Try.pinned (OpenSpec.ofChange Rows.fnKeepsCountsOnlyTheListOfItsGroupSpec) :=
  OpenClaim.holds_of_wide 4 Try.f4 rfl rfl rfl rfl rfl rfl rfl ⟨rfl, rfl, rfl, rfl, rfl⟩ rfl rfl rfl rfl rfl (by kernel_rfl) Try.func4 (by kernel_rfl)
    (of_decide_eq_true (by kernel_rfl)) (by unfold Func.isWrapper; first | (rw [if_pos (by decide +kernel)]; kernel_rfl) | (rw [if_neg (by decide +kernel)]; exact ⟨rfl, rfl⟩))
    (fun os started H enc _ => lifted os started H enc)

theorem proved : Rows.FnKeepsCountsOnlyTheListOfItsGroupSaid := over
end Go.Proofs.Qxb6630397a.fnKeepsCountsOnlyTheListOfItsGroup

namespace Go.Proofs.Qxb6630397a
/-- the given statement -/
theorem counts_holds : Rows.FnKeepsCountsOnlyTheListOfItsGroupSaid := fnKeepsCountsOnlyTheListOfItsGroup.proved
end Go.Proofs.Qxb6630397a
