import Derived.Test.Qxb6631253aRows
import Derived.WalkKit
import Derived.WalkSpells
import Derived.WalkLawsBesides
import Derived.Deep.QuietTactic
import Derived.BigQuiet
namespace Go.Proofs.Qxb6631253a
open Go.RowKit

theorem info31 : (Try.prog.info? 31).map (fun i => (i.zero, i.size, i.bytes)) = some (some (.agg #[.int .u8 0, .slice none 0 0]), 2, 32) := by kernel_rfl
theorem info5 : (Try.prog.info? 5).map (fun i => (i.zero, i.size, i.bytes)) = some (some (.int .u8 0), 1, 1) := by kernel_rfl

/-- the cells of attributes of type 79 with these values -/
def attrs (vs : List Value) : List Value := vs.flatMap fun v => [.int .u8 79, v]
theorem attrs_append (l r : List Value) : attrs (l ++ r) = attrs l ++ attrs r := by simp [attrs]
theorem attrs_one (v : Value) : attrs [v] = [.int .u8 79, v] := rfl

/-- the j-th full value of a packet -/
def fv (b off c j : Nat) : Value := .slice (some ⟨b, off + 253 * j, none⟩) 253 (c - 253 * j)
/-- all full values -/
def fvs (b off c k : Nat) : List Value := (List.range k).map (fv b off c)
theorem fvs_succ (b off c k : Nat) : fvs b off c (k + 1) = fvs b off c k ++ [fv b off c k] := by simp [fvs, List.range_succ]

/-- the length of a slice -/
def lenV : Value → Nat
  | .slice _ n _ => n
  | _ => 0

theorem cells_two_new (w : World) (v : Value) (t : TypeId) : ∀ j u, [Value.int .u8 79, v][j]? = some u → (w.alloc (.cells #[.int .u8 79, v] t)).cell? ((⟨w.heap.size, 0, none⟩ : Addr).add j) = some u := by
  intro j u h
  match j with
  | 0 => simp at h; subst h; simp [Addr.add, go_sem]
  | 1 => simp at h; subst h; simp [Addr.add, go_sem]
  | j + 2 => simp at h

theorem two_one (a : Addr) (n c : Nat) : ∀ u ∈ [Value.int .u8 79, .slice (some a) n c], u.oneCell' = true := by
  intro u hu; simp at hu; rcases hu with rfl | rfl <;> rfl
theorem two_nil : ∀ u ∈ [Value.int .u8 79, .slice none 0 0], u.oneCell' = true := by
  intro u hu; simp at hu; rcases hu with rfl | rfl <;> rfl

set_option maxHeartbeats 400000 in
theorem eap_row (b off n c : Nat) (hn : n ≤ 1048577) (hc : n ≤ c) (w : World) :
    Calls Try.prog 7 #[.slice (some ⟨b, off, none⟩) n c] w fun e w' => ∃ v k, e = .returned v ∧ (k = 0 ∨ 253 * k < n) ∧ n ≤ 253 * (k + 1) ∧
      w'.ownsRow w.heap.size 31 2 v (k + 1) (attrs (fvs b off c k ++ [.slice (some ⟨b, off + 253 * k, none⟩) (n - 253 * k) (c - 253 * k)])) ∧ Below w.heap.size w w' := by
  obtain ⟨i0, hi, hz0, hz1, hz2⟩ := info_parts info31
  go_enter Try.func7, Try.ntmps7
  go_wp2
  go_loopw [0, 3] (fun s v wr => ∃ k : Nat, (k = 0 ∨ 253 * k < n) ∧ s = .slice (some ⟨b, off + 253 * k, none⟩) (n - 253 * k) (c - 253 * k) ∧ wr.ownsRow w.heap.size 31 2 v k (attrs (fvs b off c k)) ∧ Below w.heap.size w wr) (fun s _ _ => lenV s)
  case atStart => exact ⟨0, .inl rfl, by simp, World.ownsRow_nil _ _ _ _, Below.refl _ _⟩
  case round =>
    obtain ⟨k, hk, rfl, hown, hb⟩ := hrel
    have hz := hb.size
    by_cases hlt : 253 < n - 253 * k
    · go_wp2_with (at_builtin; refine wpList_append_own _ rfl _ _ 25 rfl w.heap.size 31 i0 (.agg #[.int .u8 0, .slice none 0 0]) 2 32 Try.underlying25 hi hz0 hz1 hz2 rfl (by decide) _ k _ rfl (hown.alloc _) ⟨wr.heap.size, 0, none⟩ 1 1 [.int .u8 79, .slice (some ⟨b, off + 253 * k, none⟩) 253 (c - 253 * k)] rfl rfl (cells_two_new _ _ _) (two_one _ _ _) (by unfold maxLen; omega) (by omega) (by simp; omega) ?_; intro v' w3 hown' hgrow hnil)
      have hbn : Below w.heap.size w w3 := (hb.alloc hz _).grown hgrow (by simp; omega) (fun q hq => (hown.lt q hq).1)
      have hon : w3.ownsRow w.heap.size 31 2 v' (k + 1) (attrs (fvs b off c (k + 1))) := by rw [fvs_succ, attrs_append]; exact hown'
      refine ⟨⟨k + 1, .inr (by omega), ?_, hon, hbn⟩, ?_⟩
      · rw [show off + 253 * k + 253 = off + 253 * (k + 1) by omega, show n - 253 * k - 253 = n - 253 * (k + 1) by omega, show c - 253 * k - 253 = c - 253 * (k + 1) by omega]
      · simp only [lenV]; omega
    · go_wp2_with (at_builtin; refine wpList_append_own _ rfl _ _ 25 rfl w.heap.size 31 i0 (.agg #[.int .u8 0, .slice none 0 0]) 2 32 Try.underlying25 hi hz0 hz1 hz2 rfl (by decide) _ k _ rfl (hown.alloc _) ⟨wr.heap.size, 0, none⟩ 1 1 [.int .u8 79, .slice (some ⟨b, off + 253 * k, none⟩) (n - 253 * k) (c - 253 * k)] rfl rfl (cells_two_new _ _ _) (two_one _ _ _) (by unfold maxLen; omega) (by omega) (by simp; omega) ?_; intro v' w3 hown' hgrow hnil)
      have hbn : Below w.heap.size w w3 := (hb.alloc hz _).grown hgrow (by simp; omega) (fun q hq => (hown.lt q hq).1)
      go_ret
      exact ⟨v', k, rfl, hk, by omega, by rw [attrs_append]; exact hown', hbn⟩

set_option maxHeartbeats 400000 in
theorem eap_nil (w : World) :
    Calls Try.prog 7 #[.slice none 0 0] w fun e w' => ∃ v, e = .returned v ∧ w'.ownsRow w.heap.size 31 2 v 1 (attrs [.slice none 0 0]) ∧ Below w.heap.size w w' := by
  obtain ⟨i0, hi, hz0, hz1, hz2⟩ := info_parts info31
  have hown := World.ownsRow_nil w w.heap.size 31 2
  go_enter Try.func7, Try.ntmps7
  go_wp2
  refine wp_loop_rounds 1 ?_
  rw [rounds_succ]
  go_wp2_with (at_builtin; refine wpList_append_own _ rfl _ _ 25 rfl w.heap.size 31 i0 (.agg #[.int .u8 0, .slice none 0 0]) 2 32 Try.underlying25 hi hz0 hz1 hz2 rfl (by decide) _ 0 _ rfl (hown.alloc _) ⟨w.heap.size, 0, none⟩ 1 1 [.int .u8 79, .slice none 0 0] rfl rfl (cells_two_new _ _ _) two_nil (by unfold maxLen; omega) (by omega) (by simp) ?_; intro v' w3 hown' hgrow hnil)
  have hbn : Below w.heap.size w w3 := ((Below.refl _ _).alloc (Nat.le_refl _) _).grown hgrow (by simp) (fun q hq => (hown.lt q hq).1)
  go_ret
  exact ⟨v', rfl, hown', hbn⟩
end Go.Proofs.Qxb6631253a
