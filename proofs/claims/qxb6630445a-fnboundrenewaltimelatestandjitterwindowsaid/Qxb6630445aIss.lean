import Derived.Test.Qxb6630445aCmp
namespace Go.Proofs.Qxb6630445a
open Go.RowKit

/-- the cells of a time that lies in memory and may be written -/
def TimeAt (w : World) (b : Nat) (n s : Int) : Prop :=
  (w.cell? ⟨b, 0, none⟩ = some (.int .u64 n) ∧ w.cell? ⟨b, 1, none⟩ = some (.int .i64 s) ∧ w.cell? ⟨b, 2, none⟩ = some (.pointer none)) ∧
  (w.frozen? ⟨b, 0, none⟩ = false ∧ w.frozen? ⟨b, 1, none⟩ = false ∧ w.frozen? ⟨b, 2, none⟩ = false)

/-- three cells laid anew -/
abbrev putT (w : World) (b : Nat) (n s : Int) : World :=
  ((w.setCell ⟨b, 0, none⟩ (.int .u64 n)).setCell ⟨b, 1, none⟩ (.int .i64 s)).setCell ⟨b, 2, none⟩ (.pointer none)

theorem timeAt_put {w : World} {b : Nat} {n s : Int} (h : TimeAt w b n s) (n1 s1 : Int) : TimeAt (putT w b n1 s1) b n1 s1 := by
  obtain ⟨⟨c0, c1, c2⟩, f0, f1, f2⟩ := h
  unfold TimeAt
  go_simp
theorem timeAt_other {w : World} {b c : Nat} {n s : Int} (h : TimeAt w b n s) (hne : b ≠ c) (n1 s1 : Int) : TimeAt (putT w c n1 s1) b n s := by
  obtain ⟨⟨c0, c1, c2⟩, f0, f1, f2⟩ := h
  unfold TimeAt
  go_simp
theorem timeAt_below {w w1 : World} {b : Nat} {n s : Int} (h : TimeAt w b n s) (hb : Below w.heap.size w w1) (hlt : b < w.heap.size) : TimeAt w1 b n s := by
  obtain ⟨hc, hf⟩ := bcell hb
  unfold TimeAt at h ⊢
  simp only [hc _ _ hlt, hf _ _ hlt]
  exact h
theorem below_put {B b : Nat} {w w1 : World} (h : Below B w w1) (hb : B ≤ b) (n s : Int) : Below B w (putT w1 b n s) :=
  ((h.setCell hb _).setCell hb _).setCell hb _

set_option maxHeartbeats 400000 in
theorem issued_any (c o : Int) (hc0 : 0 ≤ c) (hc1 : c ≤ 255) (ho0 : -9223372036854775808 ≤ o) (ho1 : o ≤ 9223372036854775807) (w : World) :
    Calls Try.prog 5 #[.int .u8 c, .int .i64 o] w fun e w' => ∃ n s, e = .returned (tv n s) ∧ IsT n s (c * 3153600000000000000 + o) ∧ Below w.heap.size w w' := by
  go_enter Try.func5, Try.ntmps5
  go_wp2
  go_loopw [6] (fun i wr => ∃ (k : Nat) (n s : Int), (k : Int) ≤ c ∧ i = .int .i64 k ∧ IsT n s (k * 3153600000000000000) ∧ TimeAt wr (w.heap.size + 1) n s ∧ (∃ n' s', TimeAt wr w.heap.size n' s') ∧ w.heap.size + 1 < wr.heap.size ∧ Below w.heap.size w wr) (fun i _ => c.toNat - (intOf i).toNat)
  case atStart =>
    refine ⟨0, 0, 0, by omega, rfl, ⟨by omega, by omega, by omega⟩, ?_, ⟨0, 0, ?_⟩, by simp, ((Below.refl _ _).alloc (Nat.le_refl _) _).alloc (by simp) _⟩
    · unfold TimeAt; go_simp
    · unfold TimeAt; go_simp
  case round =>
    obtain ⟨k, n, s, hk, rfl, hT, ⟨⟨c0, c1, c2⟩, f0, f1, f2⟩, ⟨n', s', ⟨⟨d0, d1, d2⟩, g0, g1, g2⟩⟩, hz, hb⟩ := hrel
    by_cases hlt : (k : Int) < c
    · go_wp2_with fail
      refine (add_any n s _ 3153600000000000000 hT (by omega) (by omega) (by omega) (by omega) _).mono ?_
      rintro e w1 ⟨n1, s1, rfl, hT1, hb1⟩
      obtain ⟨hc, hf⟩ := bcell hb1
      have hz1 : w.heap.size + 1 < w1.heap.size := by have := hb1.size; omega
      have ta : TimeAt w1 (w.heap.size + 1) n s := timeAt_below ⟨⟨c0, c1, c2⟩, f0, f1, f2⟩ hb1 hz
      have tb : TimeAt w1 w.heap.size n' s' := timeAt_below ⟨⟨d0, d1, d2⟩, g0, g1, g2⟩ hb1 (by omega)
      have hb2 : Below w.heap.size w w1 := hb.trans (hb1.mono (by omega))
      go_wp2_with fail
      refine ⟨⟨k + 1, n1, s1, by omega, by go_num, ?_, timeAt_put ta n1 s1, ⟨n', s', timeAt_other tb (by omega) n1 s1⟩, by simpa using hz1, below_put hb2 (by omega) n1 s1⟩, ?_⟩
      · obtain ⟨q0, q1, q2⟩ := hT1
        exact ⟨q0, q1, by omega⟩
      · simp [intOf]; omega
    · have ek : (k : Int) = c := by omega
      go_wp2_with fail
      refine (add_any n s _ o hT (by omega) (by omega) (by omega) (by omega) _).mono ?_
      rintro e w1 ⟨n1, s1, rfl, hT1, hb1⟩
      obtain ⟨⟨e0, e1, e2⟩, i0, i1, i2⟩ : TimeAt w1 w.heap.size n' s' := timeAt_below ⟨⟨d0, d1, d2⟩, g0, g1, g2⟩ hb1 (by omega)
      have hz1 : w.heap.size + 1 < w1.heap.size := by have := hb1.size; omega
      have hb2 : Below w.heap.size w w1 := hb.trans (hb1.mono (by omega))
      go_wp2_with fail
      refine bodyPost_ret (v := tv n1 s1) (by simp [results, Try.results5, go_sem, e0, e1, e2]) rfl ⟨n1, s1, rfl, ?_, below_put hb2 (Nat.le_refl _) n1 s1⟩
      obtain ⟨q0, q1, q2⟩ := hT1
      exact ⟨q0, q1, by omega⟩
end Go.Proofs.Qxb6630445a
