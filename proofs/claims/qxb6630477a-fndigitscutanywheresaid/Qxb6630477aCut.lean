import Derived.Test.Qxb6630477aDig
import Derived.Deep.QuietTactic
import Derived.BigQuiet
import Derived.OpenShut
namespace Go.Proofs.Qxb6630477a
open Go.RowKit

set_option maxHeartbeats 400000 in
theorem zzb_cut (s : ByteArray) (k : Int) (w : World) (hs : s.size ≤ maxLen) :
    Calls Try.prog 8 #[.string s, .int .i64 k] w fun e w' => e = .returned (.bool (decide (s.size ≤ 1048576))) ∧ w' = w := by
  unfold maxLen at hs
  by_cases h1 : s.size ≤ 1048576
  · go_enter Try.func8, Try.ntmps8
    go_wp2
    go_ret
    exact ⟨ret_bool (by simp; omega), rfl⟩
  · go_enter Try.func8, Try.ntmps8
    go_wp2
    go_ret
    exact ⟨ret_bool (by simp; omega), rfl⟩


theorem ext_left (s : ByteArray) (n : Nat) : (s.extract 0 n).data.toList = s.data.toList.take n := by
  simp
theorem ext_right (s : ByteArray) (n : Nat) : (s.extract n s.size).data.toList = s.data.toList.drop n := by
  simp [List.take_of_length_le]
theorem ext_one (s : ByteArray) (n : Nat) (h : n < s.size) : (s.extract n (n + 1)).data.toList = [s[n]] := by
  have e : (s.extract n (n + 1)).data.toList = (s.data.toList.take (n + 1)).drop n := by
    simp [List.drop_take]
  rw [e, take_snoc s n h, List.drop_append]
  have hl : (s.data.toList.take n).length = n := by rw [List.length_take]; simp; omega
  rw [hl, List.drop_of_length_le (by omega)]
  simp

theorem digB_ne {l : List UInt8} (h : l ≠ []) : digB l = allD l := by
  cases l with
  | nil => exact absurd rfl h
  | cons a b => simp [digB]

/-- 'Digits' of a string, under one name -/
def dgS (s : ByteArray) : Bool := digB s.data.toList

theorem dgS_mid (s : ByteArray) (n : Nat) (h0 : 0 < n) (h1 : n < s.size) : dgS s = (dgS (s.extract 0 n) && dgS (s.extract n s.size)) := by
  unfold dgS
  have hl : s.data.toList.length = s.size := by simp
  rw [ext_left, ext_right, digB_ne, digB_ne, digB_ne, ← allD_append, List.take_append_drop]
  · intro e; have := congrArg List.length e; rw [List.length_drop, hl, List.length_nil] at this; omega
  · intro e; have := congrArg List.length e; rw [List.length_take, hl, List.length_nil] at this; omega
  · intro e; rw [e] at hl; simp at hl; omega
theorem dgS_end (s : ByteArray) : dgS (s.extract 0 s.size) = dgS s := by
  unfold dgS; rw [ext_left, List.take_of_length_le (by simp)]
theorem dgS_empty (s : ByteArray) (h : s.size = 0) : dgS s = false := digB_of_empty s h
theorem dgS_at (s : ByteArray) (n : Nat) (h : n < s.size) : dgS (s.extract n (n + 1)) = isD (s[n].toNat : Int) := by
  unfold dgS
  rw [ext_one s n h]
  show (!false && ([s[n]].all fun c => isD (c.toNat : Int))) = _
  simp

theorem dg_any (s : ByteArray) (w : World) (hs : s.size ≤ maxLen) :
    Calls Try.prog 6 #[.string s] w fun e w' => e = .returned (.bool (dgS s)) ∧ w' = w := digits_any s w hs


theorem grown_drewN {w w' : World} (h : Grown w w') : ∀ n, Grown w (w'.drewN n)
  | 0 => h
  | n + 1 => grown_drewN h.drew n

set_option maxHeartbeats 2000000 in
theorem cut_mid (s : ByteArray) (n : Nat) (h3 : s.size ≤ 1048576) (h0 : 0 < n) (c2 : n < s.size) (w : World) :
    Calls Try.prog 4 #[.string s, .int .i64 n] w fun e w' => e = .returned (.bool true) ∧ Grown w w' := by
  have HD : Hid (decide (s.size ≤ 1048576) = true) := decide_eq_true h3
  have hl0 : (s.extract 0 n).size ≤ maxLen := by simp only [ByteArray.size_extract, maxLen]; omega
  have hl1 : (s.extract n s.size).size ≤ maxLen := by simp only [ByteArray.size_extract, maxLen]; omega
  have hs' : s.size ≤ maxLen := by simp only [maxLen]; omega
  have c0' : ((n : Int) == 0) = false := by simp; omega
  have c1' : ((n : Int) == (s.size : Int)) = false := by simp; omega
  have c3 : (n : Int) < (s.size : Int) := by omega
  have hat := dgS_at s n c2
  have hl2 : (s.extract n (n + 1)).size ≤ maxLen := by simp only [ByteArray.size_extract, maxLen]; omega
  have HM : Hid (dgS s = (dgS (s.extract 0 n) && dgS (s.extract n s.size))) := dgS_mid s n (by omega) c2
  cases eL : dgS (s.extract 0 n) <;> cases eR : dgS (s.extract n s.size)
  all_goals
    go_enter Try.func4, Try.ntmps4
    go_wp2_with fail
    refine (zzb_cut _ _ _ hs').mono ?_
    rintro e w' ⟨rfl, rfl⟩
    rw [HD.out]
    go_wp2_with fail
    refine (dg_any _ _ hs').mono ?_
    rintro e w' ⟨rfl, rfl⟩
    rw [HM.out]
    go_wp2_with (first | (go_at_call 6; refine (dg_any _ _ (by assumption)).mono ?_; rintro e w' ⟨rfl, rfl⟩))
    go_quiet ((first | (go_at_call 6; exact Calls.quiet_of_same (dg_any _ _ (by assumption))) | (go_at_call 7; exact Calls.quiet_of_same (isd_any _ _))))
    go_wp2
    go_ret
    exact ⟨rfl, grown_drewN (Grown.refl _) _⟩

set_option maxHeartbeats 1000000 in
theorem cut_zero (s : ByteArray) (h3 : s.size ≤ 1048576) (c2 : 0 < s.size) (w : World) :
    Calls Try.prog 4 #[.string s, .int .i64 0] w fun e w' => e = .returned (.bool true) ∧ Grown w w' := by
  have HD : Hid (decide (s.size ≤ 1048576) = true) := decide_eq_true h3
  have hl1 : (s.extract 0 s.size).size ≤ maxLen := by simp only [ByteArray.size_extract, maxLen]; omega
  have hs' : s.size ≤ maxLen := by simp only [maxLen]; omega
  have c1' : ((0 : Int) == (s.size : Int)) = false := by simp; omega
  have c3 : (0 : Int) < (s.size : Int) := by omega
  have hat : dgS (s.extract 0 1) = isD (s[0].toNat : Int) := dgS_at s 0 c2
  have hl2 : (s.extract 0 1).size ≤ maxLen := by simp only [ByteArray.size_extract, maxLen]; omega
  have HM := dgS_end s
  cases eL : dgS s
  all_goals
    go_enter Try.func4, Try.ntmps4
    go_wp2_with fail
    refine (zzb_cut _ _ _ hs').mono ?_
    rintro e w' ⟨rfl, rfl⟩
    rw [HD.out]
    go_wp2_with (first | (go_at_call 6; refine (dg_any _ _ (by assumption)).mono ?_; rintro e w' ⟨rfl, rfl⟩))
    go_quiet ((first | (go_at_call 6; exact Calls.quiet_of_same (dg_any _ _ (by assumption))) | (go_at_call 7; exact Calls.quiet_of_same (isd_any _ _))))
    go_wp2
    go_ret
    exact ⟨rfl, grown_drewN (Grown.refl _) _⟩

set_option maxHeartbeats 1000000 in
theorem cut_end (s : ByteArray) (h3 : s.size ≤ 1048576) (c2 : 0 < s.size) (w : World) :
    Calls Try.prog 4 #[.string s, .int .i64 s.size] w fun e w' => e = .returned (.bool true) ∧ Grown w w' := by
  have HD : Hid (decide (s.size ≤ 1048576) = true) := decide_eq_true h3
  have hl1 : (s.extract 0 s.size).size ≤ maxLen := by simp only [ByteArray.size_extract, maxLen]; omega
  have hs' : s.size ≤ maxLen := by simp only [maxLen]; omega
  have c0' : ((s.size : Int) == 0) = false := beq_false_of_ne (by omega)
  have c3 : (0 : Int) < (s.size : Int) := by omega
  have HM := dgS_end s
  cases eL : dgS s
  all_goals
    go_enter Try.func4, Try.ntmps4
    go_wp2_with fail
    refine (zzb_cut _ _ _ hs').mono ?_
    rintro e w' ⟨rfl, rfl⟩
    rw [HD.out]
    go_wp2_with (first | (go_at_call 6; refine (dg_any _ _ (by assumption)).mono ?_; rintro e w' ⟨rfl, rfl⟩))
    go_ret
    exact ⟨rfl, Grown.refl _⟩

set_option maxHeartbeats 1000000 in
theorem cut_nil (s : ByteArray) (h3 : s.size = 0) (w : World) :
    Calls Try.prog 4 #[.string s, .int .i64 0] w fun e w' => e = .returned (.bool true) ∧ Grown w w' := by
  have hd : decide (s.size ≤ 1048576) = true := decide_eq_true (by omega)
  have hs' : s.size ≤ maxLen := by simp only [maxLen]; omega
  have eL := dgS_empty s h3
  have HM := dgS_end s
  go_enter Try.func4, Try.ntmps4
  go_wp2_with fail
  refine (zzb_cut _ _ _ hs').mono ?_
  rintro e w' ⟨rfl, rfl⟩
  rw [hd]
  go_wp2_with (first | (go_at_call 6; refine (dg_any _ _ (by assumption)).mono ?_; rintro e w' ⟨rfl, rfl⟩))
  go_ret
  exact ⟨rfl, Grown.refl _⟩

set_option maxHeartbeats 400000 in
theorem cut_walk (s : ByteArray) (k : Int) (hs : s.size ≤ maxLen) (wk : (Lit.int .i64 k).wf = true) (w : World) :
    Calls Try.prog 4 #[.string s, .int .i64 k] w fun e w' => e = .returned (.bool true) ∧ Grown w w' := by
  by_cases h3 : s.size ≤ 1048576
  · have HD : Hid (decide (s.size ≤ 1048576) = true) := decide_eq_true h3
    by_cases h1 : k < 0
    · go_enter Try.func4, Try.ntmps4
      go_wp2_with fail
      refine (zzb_cut _ _ _ hs).mono ?_
      rintro e w' ⟨rfl, rfl⟩
      rw [HD.out]
      go_wp2_with fail
      go_ret
      exact ⟨rfl, Grown.refl _⟩
    · by_cases h2 : (s.size : Int) < k
      · go_enter Try.func4, Try.ntmps4
        go_wp2_with fail
        refine (zzb_cut _ _ _ hs).mono ?_
        rintro e w' ⟨rfl, rfl⟩
        rw [HD.out]
        go_wp2_with fail
        go_ret
        exact ⟨rfl, Grown.refl _⟩
      · obtain ⟨n, rfl⟩ : ∃ n : Nat, k = (n : Int) := ⟨k.toNat, by omega⟩
        have hn : n ≤ s.size := by omega
        clear h1 h2
        by_cases c0 : n = 0
        · subst c0
          by_cases c1 : s.size = 0
          · exact cut_nil s c1 w
          · exact cut_zero s h3 (by omega) w
        · by_cases c1 : n = s.size
          · subst c1
            exact cut_end s h3 (by omega) w
          · exact cut_mid s n h3 (by omega) (by omega) w
  · have HD : Hid (decide (s.size ≤ 1048576) = false) := decide_eq_false h3
    go_enter Try.func4, Try.ntmps4
    go_wp2_with fail
    refine (zzb_cut _ _ _ hs).mono ?_
    rintro e w' ⟨rfl, rfl⟩
    rw [HD.out]
    go_wp2_with fail
    go_ret
    exact ⟨rfl, Grown.refl _⟩
end Go.Proofs.Qxb6630477a
