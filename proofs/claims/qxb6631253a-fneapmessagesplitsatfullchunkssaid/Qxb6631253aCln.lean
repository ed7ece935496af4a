import Derived.Test.Qxb6631253aEap
import Derived.Laws.CopyOwn
import Derived.Lib.SliceRun
namespace Go.Proofs.Qxb6631253a
open Go.RowKit

/-- bytes as cells -/
def bys (xs : List Int) : List Value := xs.map (.int .u8)

theorem bys_length (xs : List Int) : (bys xs).length = xs.length := by simp [bys]
theorem bys_get {xs : List Int} {j : Nat} {v : Value} (h : (bys xs)[j]? = some v) : j < xs.length ∧ v = .int .u8 (xs.getD j 0) := by
  have hj : j < xs.length := by
    rcases Nat.lt_or_ge j xs.length with h' | h'
    · exact h'
    · rw [List.getElem?_eq_none (by rw [bys_length]; exact h')] at h; cases h
  refine ⟨hj, ?_⟩
  simp [bys, List.getElem?_eq_getElem hj] at h
  rw [← h]; simp [List.getD, List.getElem?_eq_getElem hj]
theorem bys_one (xs : List Int) : ∀ v ∈ bys xs, v.oneCell' = true := by
  intro v hv; simp [bys] at hv; obtain ⟨x, _, rfl⟩ := hv; rfl

theorem size5 : (Try.prog.info? 5).map (·.size) = some 1 := by kernel_rfl

theorem copy_any (g N n : Nat) (a : Addr) (c : Nat) (xs : List Int) (hl : xs.length = n) (hnN : n ≤ N) (W : World) (cur : Array Value) (hg : W.heap[g]? = some (.cells cur 5 (0, 0))) (hcur : cur.size = N)
    (hcell : ∀ i, i < n → W.cell? (a.add i) = some (.int .u8 (xs.getD i 0))) :
    (Builtin.copy_ #[22, 22] 3 #[.slice (some ⟨g, 0, none⟩) N N, .slice (some a) n c]).run Try.prog W = .ok (goInt n) (W.setRow g (bys xs ++ cur.toList.drop n).toArray) := by
  have h := run_copy_row (P := Try.prog) W 22 22 3 5 g 0 N N a n c cur 5 (bys xs) Try.underlying22 size5 hg
    (by rw [bys_length, hl]; exact (Nat.min_eq_left hnN).symm) (fun j v hj => by obtain ⟨h1, h2⟩ := bys_get hj; rw [h2]; exact hcell j (by omega)) (by rw [bys_length]; omega) (bys_one xs)
  rw [h, bys_length, hl]
  simp

theorem setRow_new (w : World) (cur cs : Array Value) (t : TypeId) : ((w.alloc (.cells cur t)).setRow w.heap.size cs).heap[w.heap.size]? = some (.cells cs t (0, 0)) :=
  setRow_heap _ _ cur _ t (0, 0) (heap_alloc_new w _)

set_option maxHeartbeats 400000 in
theorem clone_nil (w : World) : Calls Try.prog 6 #[.slice none 0 0] w fun e w' => e = .returned (.slice none 0 0) ∧ w' = w := by
  have he := Lib.run_eql_slice_nil (P := Try.prog) w 22 5 none 0 0 0 0 Try.underlying22
  go_enter Try.func6, Try.ntmps6
  go_wp2
  go_ret
  exact ⟨rfl, rfl⟩

set_option maxHeartbeats 400000 in
theorem clone_row (a : Addr) (n c : Nat) (xs : List Int) (hl : xs.length = n) (hn : n ≤ 1048576) (w : World) (hcell : ∀ i, i < n → w.cell? (a.add i) = some (.int .u8 (xs.getD i 0))) :
    Calls Try.prog 6 #[.slice (some a) n c] w fun e w' => e = .returned (.slice (some ⟨w.heap.size, 0, none⟩) n n) ∧ w'.heap[w.heap.size]? = some (.cells (bys xs).toArray 5 (0, 0)) ∧ Below w.heap.size w w' := by
  obtain ⟨i0, hi, hz0, hz1, hz2⟩ := info_parts info5
  have hmk := run_make (P := Try.prog) w 22 5 i0 (.int .u8 0) Try.underlying22 hi hz0 .i64 .i64 (n : Int) (n : Int) (by omega) (by omega) (by rw [hz2]; omega) (by omega)
  rw [hz1] at hmk
  simp only [Int.toNat_natCast, Nat.mul_one] at hmk
  have he := Lib.run_eql_slice_nil (P := Try.prog) w 22 5 (some a) n c 0 0 Try.underlying22
  have hcp := copy_any w.heap.size n n a c xs hl (Nat.le_refl _) (w.alloc (.cells (madeCells #[.int .u8 0] n) 5)) _ (heap_alloc_new w _) (size_madeCells _ _) (fun i hi => cell_later ((Below.refl _ _).alloc (Nat.le_refl _) _) (hcell i hi))
  go_enter Try.func6, Try.ntmps6
  go_wp2_with fail
  go_ret
  refine ⟨rfl, ?_, below_setRow ((Below.refl _ _).alloc (Nat.le_refl _) _) (Nat.le_refl _) _⟩
  rw [setRow_new, List.drop_of_length_le (by simp [size_madeCells]), List.append_nil]
end Go.Proofs.Qxb6631253a
