import Derived.Test.Qxb6630445aTim
namespace Go.Proofs.Qxb6630445a
open Go.RowKit

/-- the pair reads as the time of so many nanoseconds -/
def IsT (n s T : Int) : Prop := 0 ≤ n ∧ n < 1000000000 ∧ s * 1000000000 + n = T

theorem bcell {W w1 : World} (hb : Below W.heap.size W w1) : (∀ b o, b < W.heap.size → w1.cell? ⟨b, o, none⟩ = W.cell? ⟨b, o, none⟩) ∧ (∀ b o, b < W.heap.size → w1.frozen? ⟨b, o, none⟩ = W.frozen? ⟨b, o, none⟩) :=
  ⟨fun b o h => hb.cell (p := ⟨b, o, none⟩) h, fun b o h => hb.frozen (p := ⟨b, o, none⟩) h⟩

theorem u64_and_top (n m : Int) (h0 : 0 ≤ n) (h1 : n < 1000000000) (h2 : 0 ≤ m) (h3 : m < 1000000000) : bits .and .u64 (bits .and .u64 n m) 9223372036854775808 = 0 := by
  obtain ⟨a, rfl⟩ := Int.eq_ofNat_of_zero_le h0
  obtain ⟨b, rfl⟩ := Int.eq_ofNat_of_zero_le h2
  rw [(bits_nat .u64 64 (by decide) wraps_u64 a b (by omega) (by omega)).1]
  have : a &&& b ≤ a := Nat.and_le_left
  exact u64_top _ (by omega) (by omega)

theorem add_any (n s T d : Int) (h : IsT n s T) (hT0 : -1000000000000000000000 ≤ T) (hT1 : T ≤ 1000000000000000000000) (hd0 : -9223372036854775808 ≤ d) (hd1 : d ≤ 9223372036854775807) (w : World) :
    Calls Try.prog 7 #[tv n s, .int .i64 d] w fun e w' => ∃ n' s', e = .returned (tv n' s') ∧ IsT n' s' (T + d) ∧ Below w.heap.size w w' := by
  obtain ⟨h0, h1, h2⟩ := h
  refine (add_raw n s d h0 h1 (by omega) (by omega) hd0 hd1 w).mono ?_
  rintro e w' ⟨rfl, hb⟩
  exact ⟨_, _, rfl, ⟨by omega, by omega, by omega⟩, hb⟩

set_option maxHeartbeats 1000000 in
theorem equal_any (n s n' s' T T' : Int) (h : IsT n s T) (h' : IsT n' s' T') (w : World) :
    Calls Try.prog 10 #[tv n s, tv n' s'] w fun e w' => e = .returned (.bool (decide (T = T'))) ∧ Below w.heap.size w w' := by
  obtain ⟨h0, h1, h2⟩ := h
  obtain ⟨g0, g1, g2⟩ := h'
  have k0 := u64_and_top n n' h0 h1 g0 g1
  have fin : ∀ b, b = decide (T = T') → Ending.returned (.bool b) = .returned (.bool (decide (T = T'))) := fun b hb => by rw [hb]
  have H2 : Hid (s * 1000000000 + n = T) := h2
  have G2 : Hid (s' * 1000000000 + n' = T') := g2
  clear h2 g2
  by_cases c1 : (s == s') = true
  · have C1 : Hid (s = s') := (show s = s' by simpa using c1)
    by_cases c2 : (n == n') = true
    · have C2 : Hid (n = n') := (show n = n' by simpa using c2)
      go_enter Try.func10, Try.ntmps10
      go_wp2_with fail
      refine (sec_any _ (n) (s) h0 h1 _ (by go_simp) (by go_simp)).mono ?_
      rintro e w' ⟨rfl, rfl⟩
      go_wp2_with fail
      refine (sec_any _ (n') (s') g0 g1 _ (by go_simp) (by go_simp)).mono ?_
      rintro e w' ⟨rfl, rfl⟩
      go_wp2_with fail
      refine (nsec_any _ (n) h0 h1 _ (by go_simp)).mono ?_
      rintro e w' ⟨rfl, rfl⟩
      go_wp2_with fail
      refine (nsec_any _ (n') g0 g1 _ (by go_simp)).mono ?_
      rintro e w' ⟨rfl, rfl⟩
      go_wp2_with fail
      go_ret
      exact ⟨fin _ (by have := H2.out; have := G2.out; have := C1.out; have := C2.out; first | exact (decide_eq_false (by omega)).symm | exact (decide_eq_true (by omega)).symm | (simp; omega) | (rw [Bool.eq_iff_iff]; simp only [Bool.or_eq_true, decide_eq_true_eq]; omega)), ((Below.refl _ _).alloc (Nat.le_refl _) _).alloc (by simp) _⟩
    · have C2 : Hid (¬ n = n') := (show ¬ n = n' by simpa using c2)
      have c2' : (n == n') = false := by simpa using c2
      clear c2
      go_enter Try.func10, Try.ntmps10
      go_wp2_with fail
      refine (sec_any _ (n) (s) h0 h1 _ (by go_simp) (by go_simp)).mono ?_
      rintro e w' ⟨rfl, rfl⟩
      go_wp2_with fail
      refine (sec_any _ (n') (s') g0 g1 _ (by go_simp) (by go_simp)).mono ?_
      rintro e w' ⟨rfl, rfl⟩
      go_wp2_with fail
      refine (nsec_any _ (n) h0 h1 _ (by go_simp)).mono ?_
      rintro e w' ⟨rfl, rfl⟩
      go_wp2_with fail
      refine (nsec_any _ (n') g0 g1 _ (by go_simp)).mono ?_
      rintro e w' ⟨rfl, rfl⟩
      go_wp2_with fail
      go_ret
      exact ⟨fin _ (by have := H2.out; have := G2.out; have := C1.out; have := C2.out; first | exact (decide_eq_false (by omega)).symm | exact (decide_eq_true (by omega)).symm | (simp; omega) | (rw [Bool.eq_iff_iff]; simp only [Bool.or_eq_true, decide_eq_true_eq]; omega)), ((Below.refl _ _).alloc (Nat.le_refl _) _).alloc (by simp) _⟩
  · have C1 : Hid (¬ s = s') := (show ¬ s = s' by simpa using c1)
    have c1' : (s == s') = false := by simpa using c1
    clear c1
    go_enter Try.func10, Try.ntmps10
    go_wp2_with fail
    refine (sec_any _ (n) (s) h0 h1 _ (by go_simp) (by go_simp)).mono ?_
    rintro e w' ⟨rfl, rfl⟩
    go_wp2_with fail
    refine (sec_any _ (n') (s') g0 g1 _ (by go_simp) (by go_simp)).mono ?_
    rintro e w' ⟨rfl, rfl⟩
    go_wp2_with fail
    go_ret
    exact ⟨fin _ (by have := H2.out; have := G2.out; have := C1.out; first | exact (decide_eq_false (by omega)).symm | exact (decide_eq_true (by omega)).symm | (simp; omega) | (rw [Bool.eq_iff_iff]; simp only [Bool.or_eq_true, decide_eq_true_eq]; omega)), ((Below.refl _ _).alloc (Nat.le_refl _) _).alloc (by simp) _⟩

set_option maxHeartbeats 1000000 in
theorem after_any (n s n' s' T T' : Int) (h : IsT n s T) (h' : IsT n' s' T') (w : World) :
    Calls Try.prog 11 #[tv n s, tv n' s'] w fun e w' => e = .returned (.bool (decide (T' < T))) ∧ Below w.heap.size w w' := by
  obtain ⟨h0, h1, h2⟩ := h
  obtain ⟨g0, g1, g2⟩ := h'
  have k0 := u64_and_top n n' h0 h1 g0 g1
  have fin : ∀ b, b = decide (T' < T) → Ending.returned (.bool b) = .returned (.bool (decide (T' < T))) := fun b hb => by rw [hb]
  have H2 : Hid (s * 1000000000 + n = T) := h2
  have G2 : Hid (s' * 1000000000 + n' = T') := g2
  clear h2 g2
  by_cases c0 : s' < s
  · have C0 : Hid (s' < s) := c0
    go_enter Try.func11, Try.ntmps11
    go_wp2_with fail
    refine (sec_any _ (n) (s) h0 h1 _ (by go_simp) (by go_simp)).mono ?_
    rintro e w' ⟨rfl, rfl⟩
    go_wp2_with fail
    refine (sec_any _ (n') (s') g0 g1 _ (by go_simp) (by go_simp)).mono ?_
    rintro e w' ⟨rfl, rfl⟩
    go_wp2_with fail
    go_ret
    exact ⟨fin _ (by have := H2.out; have := G2.out; have := C0.out; first | exact (decide_eq_false (by omega)).symm | exact (decide_eq_true (by omega)).symm | (simp; omega) | (rw [Bool.eq_iff_iff]; simp only [Bool.or_eq_true, decide_eq_true_eq]; omega)), ((Below.refl _ _).alloc (Nat.le_refl _) _).alloc (by simp) _⟩
  · have C0 : Hid (¬ s' < s) := c0
    by_cases c1 : (s == s') = true
    · have C1 : Hid (s = s') := (show s = s' by simpa using c1)
      by_cases c2 : n' < n
      · have C2 : Hid (n' < n) := c2
        go_enter Try.func11, Try.ntmps11
        go_wp2_with fail
        refine (sec_any _ (n) (s) h0 h1 _ (by go_simp) (by go_simp)).mono ?_
        rintro e w' ⟨rfl, rfl⟩
        go_wp2_with fail
        refine (sec_any _ (n') (s') g0 g1 _ (by go_simp) (by go_simp)).mono ?_
        rintro e w' ⟨rfl, rfl⟩
        go_wp2_with fail
        refine (nsec_any _ (n) h0 h1 _ (by go_simp)).mono ?_
        rintro e w' ⟨rfl, rfl⟩
        go_wp2_with fail
        refine (nsec_any _ (n') g0 g1 _ (by go_simp)).mono ?_
        rintro e w' ⟨rfl, rfl⟩
        go_wp2_with fail
        go_ret
        exact ⟨fin _ (by have := H2.out; have := G2.out; have := C0.out; have := C1.out; have := C2.out; first | exact (decide_eq_false (by omega)).symm | exact (decide_eq_true (by omega)).symm | (simp; omega) | (rw [Bool.eq_iff_iff]; simp only [Bool.or_eq_true, decide_eq_true_eq]; omega)), ((Below.refl _ _).alloc (Nat.le_refl _) _).alloc (by simp) _⟩
      · have C2 : Hid (¬ n' < n) := c2
        go_enter Try.func11, Try.ntmps11
        go_wp2_with fail
        refine (sec_any _ (n) (s) h0 h1 _ (by go_simp) (by go_simp)).mono ?_
        rintro e w' ⟨rfl, rfl⟩
        go_wp2_with fail
        refine (sec_any _ (n') (s') g0 g1 _ (by go_simp) (by go_simp)).mono ?_
        rintro e w' ⟨rfl, rfl⟩
        go_wp2_with fail
        refine (nsec_any _ (n) h0 h1 _ (by go_simp)).mono ?_
        rintro e w' ⟨rfl, rfl⟩
        go_wp2_with fail
        refine (nsec_any _ (n') g0 g1 _ (by go_simp)).mono ?_
        rintro e w' ⟨rfl, rfl⟩
        go_wp2_with fail
        go_ret
        exact ⟨fin _ (by have := H2.out; have := G2.out; have := C0.out; have := C1.out; have := C2.out; first | exact (decide_eq_false (by omega)).symm | exact (decide_eq_true (by omega)).symm | (simp; omega) | (rw [Bool.eq_iff_iff]; simp only [Bool.or_eq_true, decide_eq_true_eq]; omega)), ((Below.refl _ _).alloc (Nat.le_refl _) _).alloc (by simp) _⟩
    · have C1 : Hid (¬ s = s') := (show ¬ s = s' by simpa using c1)
      have c1' : (s == s') = false := by simpa using c1
      clear c1
      go_enter Try.func11, Try.ntmps11
      go_wp2_with fail
      refine (sec_any _ (n) (s) h0 h1 _ (by go_simp) (by go_simp)).mono ?_
      rintro e w' ⟨rfl, rfl⟩
      go_wp2_with fail
      refine (sec_any _ (n') (s') g0 g1 _ (by go_simp) (by go_simp)).mono ?_
      rintro e w' ⟨rfl, rfl⟩
      go_wp2_with fail
      go_ret
      exact ⟨fin _ (by have := H2.out; have := G2.out; have := C0.out; have := C1.out; first | exact (decide_eq_false (by omega)).symm | exact (decide_eq_true (by omega)).symm | (simp; omega) | (rw [Bool.eq_iff_iff]; simp only [Bool.or_eq_true, decide_eq_true_eq]; omega)), ((Below.refl _ _).alloc (Nat.le_refl _) _).alloc (by simp) _⟩

set_option maxHeartbeats 1000000 in
theorem before_any (n s n' s' T T' : Int) (h : IsT n s T) (h' : IsT n' s' T') (w : World) :
    Calls Try.prog 12 #[tv n s, tv n' s'] w fun e w' => e = .returned (.bool (decide (T < T'))) ∧ Below w.heap.size w w' := by
  obtain ⟨h0, h1, h2⟩ := h
  obtain ⟨g0, g1, g2⟩ := h'
  have k0 := u64_and_top n n' h0 h1 g0 g1
  have fin : ∀ b, b = decide (T < T') → Ending.returned (.bool b) = .returned (.bool (decide (T < T'))) := fun b hb => by rw [hb]
  have H2 : Hid (s * 1000000000 + n = T) := h2
  have G2 : Hid (s' * 1000000000 + n' = T') := g2
  clear h2 g2
  by_cases c0 : s < s'
  · have C0 : Hid (s < s') := c0
    go_enter Try.func12, Try.ntmps12
    go_wp2_with fail
    refine (sec_any _ (n) (s) h0 h1 _ (by go_simp) (by go_simp)).mono ?_
    rintro e w' ⟨rfl, rfl⟩
    go_wp2_with fail
    refine (sec_any _ (n') (s') g0 g1 _ (by go_simp) (by go_simp)).mono ?_
    rintro e w' ⟨rfl, rfl⟩
    go_wp2_with fail
    go_ret
    exact ⟨fin _ (by have := H2.out; have := G2.out; have := C0.out; first | exact (decide_eq_false (by omega)).symm | exact (decide_eq_true (by omega)).symm | (simp; omega) | (rw [Bool.eq_iff_iff]; simp only [Bool.or_eq_true, decide_eq_true_eq]; omega)), ((Below.refl _ _).alloc (Nat.le_refl _) _).alloc (by simp) _⟩
  · have C0 : Hid (¬ s < s') := c0
    by_cases c1 : (s == s') = true
    · have C1 : Hid (s = s') := (show s = s' by simpa using c1)
      by_cases c2 : n < n'
      · have C2 : Hid (n < n') := c2
        go_enter Try.func12, Try.ntmps12
        go_wp2_with fail
        refine (sec_any _ (n) (s) h0 h1 _ (by go_simp) (by go_simp)).mono ?_
        rintro e w' ⟨rfl, rfl⟩
        go_wp2_with fail
        refine (sec_any _ (n') (s') g0 g1 _ (by go_simp) (by go_simp)).mono ?_
        rintro e w' ⟨rfl, rfl⟩
        go_wp2_with fail
        refine (nsec_any _ (n) h0 h1 _ (by go_simp)).mono ?_
        rintro e w' ⟨rfl, rfl⟩
        go_wp2_with fail
        refine (nsec_any _ (n') g0 g1 _ (by go_simp)).mono ?_
        rintro e w' ⟨rfl, rfl⟩
        go_wp2_with fail
        go_ret
        exact ⟨fin _ (by have := H2.out; have := G2.out; have := C0.out; have := C1.out; have := C2.out; first | exact (decide_eq_false (by omega)).symm | exact (decide_eq_true (by omega)).symm | (simp; omega) | (rw [Bool.eq_iff_iff]; simp only [Bool.or_eq_true, decide_eq_true_eq]; omega)), ((Below.refl _ _).alloc (Nat.le_refl _) _).alloc (by simp) _⟩
      · have C2 : Hid (¬ n < n') := c2
        go_enter Try.func12, Try.ntmps12
        go_wp2_with fail
        refine (sec_any _ (n) (s) h0 h1 _ (by go_simp) (by go_simp)).mono ?_
        rintro e w' ⟨rfl, rfl⟩
        go_wp2_with fail
        refine (sec_any _ (n') (s') g0 g1 _ (by go_simp) (by go_simp)).mono ?_
        rintro e w' ⟨rfl, rfl⟩
        go_wp2_with fail
        refine (nsec_any _ (n) h0 h1 _ (by go_simp)).mono ?_
        rintro e w' ⟨rfl, rfl⟩
        go_wp2_with fail
        refine (nsec_any _ (n') g0 g1 _ (by go_simp)).mono ?_
        rintro e w' ⟨rfl, rfl⟩
        go_wp2_with fail
        go_ret
        exact ⟨fin _ (by have := H2.out; have := G2.out; have := C0.out; have := C1.out; have := C2.out; first | exact (decide_eq_false (by omega)).symm | exact (decide_eq_true (by omega)).symm | (simp; omega) | (rw [Bool.eq_iff_iff]; simp only [Bool.or_eq_true, decide_eq_true_eq]; omega)), ((Below.refl _ _).alloc (Nat.le_refl _) _).alloc (by simp) _⟩
    · have C1 : Hid (¬ s = s') := (show ¬ s = s' by simpa using c1)
      have c1' : (s == s') = false := by simpa using c1
      clear c1
      go_enter Try.func12, Try.ntmps12
      go_wp2_with fail
      refine (sec_any _ (n) (s) h0 h1 _ (by go_simp) (by go_simp)).mono ?_
      rintro e w' ⟨rfl, rfl⟩
      go_wp2_with fail
      refine (sec_any _ (n') (s') g0 g1 _ (by go_simp) (by go_simp)).mono ?_
      rintro e w' ⟨rfl, rfl⟩
      go_wp2_with fail
      go_ret
      exact ⟨fin _ (by have := H2.out; have := G2.out; have := C0.out; have := C1.out; first | exact (decide_eq_false (by omega)).symm | exact (decide_eq_true (by omega)).symm | (simp; omega) | (rw [Bool.eq_iff_iff]; simp only [Bool.or_eq_true, decide_eq_true_eq]; omega)), ((Below.refl _ _).alloc (Nat.le_refl _) _).alloc (by simp) _⟩

end Go.Proofs.Qxb6630445a
