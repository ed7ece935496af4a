import Derived.Test.Qxb6630477aRows
import Derived.WalkKit
import Derived.WalkSpells
import Derived.WalkLawsBesides
namespace Go.Proofs.Qxb6630477a
open Go.RowKit

/-- one ASCII digit -/
def isD (c : Int) : Bool := decide (48 ≤ c ∧ c ≤ 57)
/-- all digits -/
def allD (l : List UInt8) : Bool := l.all fun c => isD (c.toNat : Int)
/-- one digit or more, and nothing else -/
def digB (l : List UInt8) : Bool := !l.isEmpty && allD l

theorem ret_bool {a b : Bool} (h : a = b) : Ending.returned (.bool a) = .returned (.bool b) := by rw [h]

theorem take_snoc (s : ByteArray) (k : Nat) (h : k < s.size) : s.data.toList.take (k + 1) = s.data.toList.take k ++ [s[k]] := by
  rw [List.take_succ_eq_append_getElem (by simpa using h)]; rfl

theorem allD_snoc (l : List UInt8) (c : UInt8) : allD (l ++ [c]) = (allD l && isD (c.toNat : Int)) := by
  simp [allD]

theorem allD_append (l r : List UInt8) : allD (l ++ r) = (allD l && allD r) := by
  simp [allD]

theorem allD_take_false (l : List UInt8) (k : Nat) (h : allD (l.take k) = false) : allD l = false := by
  have e : allD l = (allD (l.take k) && allD (l.drop k)) := by rw [← allD_append, List.take_append_drop]
  rw [e, h]; rfl

theorem isD_of_lt {c : Int} (h : c < 48) : isD c = false := by simp [isD]; omega
theorem isD_of_gt {c : Int} (h : 57 < c) : isD c = false := by simp [isD]; omega
theorem isD_of {c : Int} (h1 : ¬ c < 48) (h2 : ¬ 57 < c) : isD c = true := by simp [isD]; omega

theorem digB_of_empty (s : ByteArray) (h : s.size = 0) : digB s.data.toList = false := by
  have : s.data.toList = [] := by
    apply List.eq_nil_of_length_eq_zero; simpa using h
  rw [this]; rfl
theorem digB_of_ne (s : ByteArray) (h : 0 < s.size) : digB s.data.toList = allD s.data.toList := by
  have : s.data.toList ≠ [] := by
    intro e; have := congrArg List.length e; simp at this; simp [this] at h
  cases e : s.data.toList with
  | nil => exact absurd e this
  | cons a b => simp [digB]

set_option maxHeartbeats 400000 in
theorem isd_any (c : Int) (w : World) :
    Calls Try.prog 7 #[.int .u8 c] w fun e w' => e = .returned (.bool (isD c)) ∧ w' = w := by
  by_cases h1 : 48 ≤ c
  · by_cases h2 : c ≤ 57
    · go_enter Try.func7, Try.ntmps7
      go_wp2
      go_ret
      exact ⟨ret_bool (by simp [isD]; omega), rfl⟩
    · go_enter Try.func7, Try.ntmps7
      go_wp2
      go_ret
      exact ⟨ret_bool (by simp [isD]; omega), rfl⟩
  · go_enter Try.func7, Try.ntmps7
    go_wp2
    go_ret
    exact ⟨ret_bool (by simp [isD]; omega), rfl⟩

set_option maxHeartbeats 400000 in
theorem digits_any (s : ByteArray) (w : World) (hs : s.size ≤ maxLen) :
    Calls Try.prog 6 #[.string s] w fun e w' => e = .returned (.bool (digB s.data.toList)) ∧ w' = w := by
  unfold maxLen at hs
  by_cases h0 : s.size = 0
  · have hemp : s = ByteArray.empty := by
      apply ByteArray.ext; apply Array.eq_empty_of_size_eq_zero; simpa using h0
    subst hemp
    go_enter Try.func6, Try.ntmps6
    go_wp2
    go_ret
    exact ⟨ret_bool (digB_of_empty _ rfl).symm, rfl⟩
  · have hne : s.toList.isEmpty = false := by
      rw [← decide_eq_emptyBytes]; simp only [decide_eq_false_iff_not]; intro e; subst e; exact h0 rfl
    go_enter Try.func6, Try.ntmps6
    go_wp2
    go_loop [3] (fun i => ∃ k : Nat, k ≤ s.size ∧ i = .int .i64 k ∧ allD (s.data.toList.take k) = true) (fun i => s.size - (intOf i).toNat)
    case atStart => exact ⟨0, Nat.zero_le _, rfl, rfl⟩
    case round =>
      obtain ⟨k, hk, rfl, hall⟩ := hrel
      have HA : Hid (allD (s.data.toList.take k) = true) := hall
      clear hall
      by_cases hlt : k < s.size
      · have HT : Hid (allD (s.data.toList.take (k + 1)) = (allD (s.data.toList.take k) && isD (s[k].toNat : Int))) := by
          show _ = _
          rw [take_snoc s k hlt, allD_snoc]
        by_cases c1 : (s[k].toNat : Int) < 48
        · go_wp2
          go_ret
          exact ⟨ret_bool (by rw [digB_of_ne s (by omega)]; exact (allD_take_false _ (k + 1) (by rw [HT.out, isD_of_lt c1]; simp)).symm), rfl⟩
        · by_cases c2 : 57 < (s[k].toNat : Int)
          · go_wp2
            go_ret
            exact ⟨ret_bool (by rw [digB_of_ne s (by omega)]; exact (allD_take_false _ (k + 1) (by rw [HT.out, isD_of_gt c2]; simp)).symm), rfl⟩
          · go_wp2
            go_round
            case rel => exact ⟨k + 1, by omega, by go_num, by rw [HT.out, HA.out, isD_of c1 c2]; rfl⟩
            case measure => simp [intOf]; omega
      · go_wp2
        go_ret
        exact ⟨ret_bool (by rw [digB_of_ne s (by omega), ← HA.out, List.take_of_length_le (by simp; omega)]), rfl⟩

end Go.Proofs.Qxb6630477a
