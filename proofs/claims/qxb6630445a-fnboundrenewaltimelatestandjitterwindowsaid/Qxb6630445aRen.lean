import Derived.Test.Qxb6630445aIss
import Derived.Test.Qxb6630445aDur
namespace Go.Proofs.Qxb6630445a
open Go.RowKit

theorem latest_any (L : Nat) (hL : 0 < L) (h63 : L < 9223372036854775808) (w : World) :
    Calls Try.prog 8 #[.int .i64 L] w fun e w' => e = .returned (.int .i64 ((ageN L : Nat) : Int)) ∧ w' = w := by
  by_cases h : (108000 : Int) ≤ (L : Int)
  · have e : ageN L = 86400000000000 := by unfold ageN; omega
    rw [e]
    go_enter Try.func8, Try.ntmps8
    go_wp2
    go_ret
    exact ⟨rfl, rfl⟩
  · have e : ((ageN L : Nat) : Int) = (L : Int) * 800 * 1000000 := by unfold ageN; omega
    rw [e]
    go_enter Try.func8, Try.ntmps8
    go_wp2
    go_ret
    exact ⟨rfl, rfl⟩

theorem forward_any (L : Nat) (hL : 0 < L) (h63 : L < 9223372036854775808) (w : World) :
    Calls Try.prog 9 #[.int .i64 L] w fun e w' => e = .returned (.int .i64 ((sprN L : Nat) : Int)) ∧ w' = w := by
  by_cases h : (1000 : Int) ≤ (L : Int)
  · have e : sprN L = 10000000000 := by unfold sprN; omega
    rw [e]
    go_enter Try.func9, Try.ntmps9
    go_wp2
    go_ret
    exact ⟨rfl, rfl⟩
  · have e : ((sprN L : Nat) : Int) = (L : Int) * 10 * 1000000 := by unfold sprN; omega
    rw [e]
    go_enter Try.func9, Try.ntmps9
    go_wp2
    go_ret
    exact ⟨rfl, rfl⟩

theorem ofInt_nat (L : Nat) : floatOfInt .f64 (L : Int) = Ieee.double.nearest false L 0 := by
  show Ieee.double.nearest (decide ((L : Int) < 0)) (L : Int).natAbs 0 = _
  rw [decide_eq_false (by omega), Int.natAbs_natCast]

theorem run_minF (x y : Nat) (h : ∃ o, Ieee.double.order x y = some o) (w : World) :
    (Builtin.min_ #[22, 22] 22 #[.float .f64 x, .float .f64 y]).run Try.prog w = .ok (.float .f64 (minF x y)) w := by
  obtain ⟨o, ho⟩ := h
  unfold minF
  cases o
  · simp [Builtin.min_, Builtin.min2, FloatKind.format, ho]
  · simp [Builtin.min_, Builtin.min2, FloatKind.format, FloatKind.decode, ho]
    rfl
  · simp [Builtin.min_, Builtin.min2, FloatKind.format, ho]

set_option maxHeartbeats 400000 in
theorem renewal_any (n s T : Int) (L j J : Nat) (hT : IsT n s T) (hT0 : -1000000000000000000000 ≤ T) (hT1 : T ≤ 1000000000000000000000) (hL : 0 < L) (h63 : L < 9223372036854775808) (hj : FinV j J) (hJ : J ≤ U) (w : World) :
    Calls Try.prog 6 #[tv n s, .int .i64 L, .float .f64 j] w fun e w' => ∃ n' s', e = .returned (tv n' s') ∧ IsT n' s' (T + ((durN L J : Nat) : Int)) ∧ Below w.heap.size w w' := by
  obtain ⟨b2, b3, b4, b5, bp, bd, q2, q3, q4, q5, q6, q7, q8, q9, q10⟩ := formula L j J hL h63 hj hJ
  have hdu : durN L J ≤ 86400000000000 := Nat.le_trans (dur_le L J) (age_bd L)
  rw [← ofInt_nat] at q2
  have r2 := fun w => run_float_arith (P := Try.prog) w .mul 22 .f64 _ _ _ q2
  have r3 := fun w => run_float_arith (P := Try.prog) w .mul 22 .f64 _ _ _ q3
  have r4 := fun w => run_float_arith (P := Try.prog) w .quo 22 .f64 _ _ _ q4
  have r5 := fun w => run_minF _ _ q5 w
  have r6 := fun w => run_float_arith (P := Try.prog) w .quo 22 .f64 _ _ _ q6
  have r7 := fun w => run_minF _ _ q7 w
  have r8 := fun w => run_float_arith (P := Try.prog) w .mul 22 .f64 _ _ _ q8
  have r9 := fun w => run_float_arith (P := Try.prog) w .sub 22 .f64 _ _ _ q9
  have hti : floatToIntVal .f64 bd .i64 = some ((durN L J : Nat) : Int) := by
    unfold floatToIntVal
    show (match (Ieee.double.read bd).toInt .zero with | some n => _ | none => _) = _
    rw [q10]
    show (if _ then _ else _) = _
    rw [if_pos]
    simp only [IntKind.min, IntKind.max, IntKind.signed, IntKind.bits]
    simp
    omega
  have r10 := fun w => run_convert_float_int (P := Try.prog) w 22 30 .f64 .i64 bd _ (by rw [Try.underlying22]; rfl) Try.underlying30 hti
  clear q2 q3 q4 q5 q6 q7 q8 q9 q10 hti hj
  go_enter Try.func6, Try.ntmps6
  go_wp2_with fail
  refine (add_any n s T _ hT hT0 hT1 (by omega) (by omega) _).mono ?_
  rintro e w1 ⟨n1, s1, rfl, hT2, hb1⟩
  have hb : Below w.heap.size w w1 := (((Below.refl _ _).alloc (Nat.le_refl _) _).alloc (by simp) _).trans (hb1.mono (by simp; omega))
  have hz1 : w.heap.size + 1 < w1.heap.size := by have := hb1.size; simp at this; omega
  obtain ⟨⟨e0, e1, e2⟩, i0, i1, i2⟩ : TimeAt w1 (w.heap.size + 1) 0 0 := timeAt_below (by unfold TimeAt; go_simp) hb1 (by simp)
  go_wp2_with fail
  exact bodyPost_ret (v := tv n1 s1) (by simp [results, Try.results6, go_sem, e0, e1, e2]) rfl ⟨n1, s1, rfl, hT2, below_put hb (by omega) n1 s1⟩

end Go.Proofs.Qxb6630445a
