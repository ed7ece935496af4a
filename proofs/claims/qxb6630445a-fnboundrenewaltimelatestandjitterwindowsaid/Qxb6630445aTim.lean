import Derived.Test.Qxb6630445aRows
import Derived.Test.Qxb6630445aBit
import Derived.WalkKit
import Derived.WalkSpells
import Derived.WalkLawsBesides
namespace Go.Proofs.Qxb6630445a
open Go.RowKit

/-- a time without a monotonic reading: its nanoseconds and seconds -/
abbrev tv (n s : Int) : Value := .agg #[.int .u64 n, .int .i64 s, .pointer none]

theorem ret_val {u v : Value} (h : u = v) : Ending.returned u = .returned v := by rw [h]

set_option maxHeartbeats 400000 in
theorem nsec_any (b : Nat) (n : Int) (h0 : 0 ≤ n) (h1 : n < 1000000000) (w : World) (hc : w.cell? ⟨b, 0, none⟩ = some (.int .u64 n)) :
    Calls Try.prog 14 #[.pointer (some ⟨b, 0, none⟩)] w fun e w' => e = .returned (.int .i32 n) ∧ w' = w := by
  have k1 := u64_mask30 n h0 h1
  go_enter Try.func14, Try.ntmps14
  go_wp2
  go_ret
  exact ⟨rfl, rfl⟩

set_option maxHeartbeats 400000 in
theorem sec_any (b : Nat) (n s : Int) (h0 : 0 ≤ n) (h1 : n < 1000000000) (w : World) (hc : w.cell? ⟨b, 0, none⟩ = some (.int .u64 n)) (hc1 : w.cell? ⟨b, 1, none⟩ = some (.int .i64 s)) :
    Calls Try.prog 17 #[.pointer (some ⟨b, 0, none⟩)] w fun e w' => e = .returned (.int .i64 s) ∧ w' = w := by
  have k1 := u64_top n h0 h1
  go_enter Try.func17, Try.ntmps17
  go_wp2
  go_ret
  exact ⟨rfl, rfl⟩

set_option maxHeartbeats 400000 in
theorem addSec_any (b : Nat) (n s d : Int) (h0 : 0 ≤ n) (h1 : n < 1000000000) (hs0 : -4611686018427387904 ≤ s) (hs1 : s ≤ 4611686018427387904) (hd0 : -4611686018427387904 ≤ d) (hd1 : d ≤ 4611686018427387903)
    (w : World) (hc : w.cell? ⟨b, 0, none⟩ = some (.int .u64 n)) (hc1 : w.cell? ⟨b, 1, none⟩ = some (.int .i64 s)) (hf : w.frozen? ⟨b, 1, none⟩ = false) :
    Calls Try.prog 15 #[.pointer (some ⟨b, 0, none⟩), .int .i64 d] w fun e w' => e = .returned (.tuple #[]) ∧ w' = w.setCell ⟨b, 1, none⟩ (.int .i64 (s + d)) := by
  have k1 := u64_top n h0 h1
  by_cases hp : 0 < d
  · have h2 : s < s + d := by omega
    go_enter Try.func15, Try.ntmps15
    go_wp2
    go_end0
    exact ⟨rfl, rfl⟩
  · have h2 : ¬ s < s + d := by omega
    go_enter Try.func15, Try.ntmps15
    go_wp2
    go_end0
    exact ⟨rfl, rfl⟩

theorem tv_eq {a b c d : Int} (h1 : a = c) (h2 : b = d) : tv a b = tv c d := by rw [h1, h2]

theorem tparts (d : Int) : 1000000000 * d.tdiv 1000000000 + d.tmod 1000000000 = d ∧ -1000000000 < d.tmod 1000000000 ∧ d.tmod 1000000000 < 1000000000 :=
  ⟨Int.mul_tdiv_add_tmod d 1000000000, Int.lt_tmod_of_pos d (by decide), Int.tmod_lt_of_pos d (by decide)⟩

set_option maxHeartbeats 400000 in
theorem add_raw (n s d : Int) (h0 : 0 ≤ n) (h1 : n < 1000000000) (hs0 : -2305843009213693952 ≤ s) (hs1 : s ≤ 2305843009213693952) (hd0 : -9223372036854775808 ≤ d) (hd1 : d ≤ 9223372036854775807) (w : World) :
    Calls Try.prog 7 #[tv n s, .int .i64 d] w fun e w' => e = .returned (tv ((n + d) % 1000000000) (s + (n + d) / 1000000000)) ∧ Below w.heap.size w w' := by
  obtain ⟨hqr, hr0, hr1⟩ := tparts d
  have hq0 : -9223372037 ≤ d.tdiv 1000000000 := by omega
  have hq1 : d.tdiv 1000000000 ≤ 9223372037 := by omega
  have HQ : Hid (1000000000 * d.tdiv 1000000000 + d.tmod 1000000000 = d) := hqr
  clear hqr
  have k1 := u64_clear30 n h0 h1
  by_cases ha : 1000000000 ≤ n + d.tmod 1000000000
  · have k2 := u64_or0 (n + d.tmod 1000000000 - 1000000000) (by omega) (by omega)
    have k3 := u64_top (n + d.tmod 1000000000 - 1000000000) (by omega) (by omega)
    go_enter Try.func7, Try.ntmps7
    go_wp2_with fail
    refine (nsec_any _ n h0 h1 _ (by go_simp)).mono ?_
    rintro e w' ⟨rfl, rfl⟩
    go_wp2_with fail
    refine (addSec_any _ (n + d.tmod 1000000000 - 1000000000) s (d.tdiv 1000000000 + 1) (by omega) (by omega) (by omega) (by omega) (by omega) (by omega) _ (by go_simp) (by go_simp) (by go_simp)).mono ?_
    rintro e w' ⟨rfl, rfl⟩
    go_wp2_with fail
    refine bodyPost_ret (v := tv (n + d.tmod 1000000000 - 1000000000) (s + (d.tdiv 1000000000 + 1))) (by simp [results, Try.results7, go_sem]) rfl ⟨ret_val (tv_eq (by have := HQ.out; omega) (by have := HQ.out; omega)), ?_⟩
    exact ((Below.refl _ _).alloc (Nat.le_refl _) _).alloc (by simp) _

  · by_cases hb : n + d.tmod 1000000000 < 0
    · have k2 := u64_or0 (n + d.tmod 1000000000 + 1000000000) (by omega) (by omega)
      have k3 := u64_top (n + d.tmod 1000000000 + 1000000000) (by omega) (by omega)
      go_enter Try.func7, Try.ntmps7
      go_wp2_with fail
      refine (nsec_any _ n h0 h1 _ (by go_simp)).mono ?_
      rintro e w' ⟨rfl, rfl⟩
      go_wp2_with fail
      refine (addSec_any _ (n + d.tmod 1000000000 + 1000000000) s (d.tdiv 1000000000 - 1) (by omega) (by omega) (by omega) (by omega) (by omega) (by omega) _ (by go_simp) (by go_simp) (by go_simp)).mono ?_
      rintro e w' ⟨rfl, rfl⟩
      go_wp2_with fail
      refine bodyPost_ret (v := tv (n + d.tmod 1000000000 + 1000000000) (s + (d.tdiv 1000000000 - 1))) (by simp [results, Try.results7, go_sem]) rfl ⟨ret_val (tv_eq (by have := HQ.out; omega) (by have := HQ.out; omega)), ?_⟩
      exact ((Below.refl _ _).alloc (Nat.le_refl _) _).alloc (by simp) _

    · have k2 := u64_or0 (n + d.tmod 1000000000) (by omega) (by omega)
      have k3 := u64_top (n + d.tmod 1000000000) (by omega) (by omega)
      go_enter Try.func7, Try.ntmps7
      go_wp2_with fail
      refine (nsec_any _ n h0 h1 _ (by go_simp)).mono ?_
      rintro e w' ⟨rfl, rfl⟩
      go_wp2_with fail
      refine (addSec_any _ (n + d.tmod 1000000000) s (d.tdiv 1000000000) (by omega) (by omega) (by omega) (by omega) (by omega) (by omega) _ (by go_simp) (by go_simp) (by go_simp)).mono ?_
      rintro e w' ⟨rfl, rfl⟩
      go_wp2_with fail
      refine bodyPost_ret (v := tv (n + d.tmod 1000000000) (s + (d.tdiv 1000000000))) (by simp [results, Try.results7, go_sem]) rfl ⟨ret_val (tv_eq (by have := HQ.out; omega) (by have := HQ.out; omega)), ?_⟩
      exact ((Below.refl _ _).alloc (Nat.le_refl _) _).alloc (by simp) _

end Go.Proofs.Qxb6630445a
