import Derived.Test.Qxb6630445aHlp
import Derived.Deep.RegionHeld3
namespace Go.Proofs.Qxb6630445a
open Go.RowKit

/-- the cells of a time -/
abbrev CellsT (w : World) (b : Nat) (n s : Int) : Prop :=
  w.cell? ⟨b, 0, none⟩ = some (.int .u64 n) ∧ w.cell? ⟨b, 1, none⟩ = some (.int .i64 s) ∧ w.cell? ⟨b, 2, none⟩ = some (.pointer none)

theorem cell_kept {W w' : World} (hb : Below W.heap.size W w') {a : Addr} {v : Value} (h : W.cell? a = some v) : w'.cell? a = some v :=
  (hb.cell (World.block_lt_of_cell? W a h)).trans h
theorem cellsT_kept {W w' : World} (hb : Below W.heap.size W w') {b : Nat} {n s : Int} (h : CellsT W b n s) : CellsT w' b n s :=
  ⟨cell_kept hb h.1, cell_kept hb h.2.1, cell_kept hb h.2.2⟩

/-- what the last region may lean on, in whatever order it goes -/
abbrev Held (w : World) (b1 b2 b3 b4 b5 : Nat) (n1 s1 n2 s2 n3 s3 n4 s4 n5 s5 : Int) (w' : World) : Prop :=
  CellsT w' b1 n1 s1 ∧ CellsT w' b2 n2 s2 ∧ CellsT w' b3 n3 s3 ∧ CellsT w' b4 n4 s4 ∧ CellsT w' b5 n5 s5 ∧ Below w.heap.size w w'

theorem held_kept {w : World} {b1 b2 b3 b4 b5 : Nat} {n1 s1 n2 s2 n3 s3 n4 s4 n5 s5 : Int} {W w' : World} (hb : Below W.heap.size W w')
    (h : Held w b1 b2 b3 b4 b5 n1 s1 n2 s2 n3 s3 n4 s4 n5 s5 W) : Held w b1 b2 b3 b4 b5 n1 s1 n2 s2 n3 s3 n4 s4 n5 s5 w' :=
  ⟨cellsT_kept hb h.1, cellsT_kept hb h.2.1, cellsT_kept hb h.2.2.1, cellsT_kept hb h.2.2.2.1, cellsT_kept hb h.2.2.2.2.1,
    h.2.2.2.2.2.trans (hb.mono h.2.2.2.2.2.size)⟩

theorem fin_lt {a b X Y : Nat} (ha : FinV a X) (hb : FinV b Y) : (FloatKind.f64.format.order a b == some .lt) = decide (X < Y) := by
  show (Ieee.double.order a b == some .lt) = _
  rw [fin_order ha hb]
  rcases Nat.lt_trichotomy X Y with h | h | h
  · rw [Nat.compare_eq_lt.2 h, decide_eq_true h]; rfl
  · rw [Nat.compare_eq_eq.2 h, decide_eq_false (by omega)]; rfl
  · rw [Nat.compare_eq_gt.2 h, decide_eq_false (by omega)]; rfl

/-- the two lifetimes, the shorter first -/
def RelL (s l : Value) : Prop := ∃ S L : Nat, s = .int .i64 S ∧ l = .int .i64 L ∧ 0 < S ∧ S ≤ L ∧ L < 9223372036854775808
/-- the two jitters, the lesser first -/
def RelJ (a b : Value) : Prop := ∃ l m Jl Jm : Nat, a = .float .f64 l ∧ b = .float .f64 m ∧ FinV l Jl ∧ FinV m Jm ∧ Jl ≤ Jm ∧ Jm ≤ U

set_option maxRecDepth 20000 in
set_option maxHeartbeats 4000000 in
theorem shift_walk (c o sh L1 L2 : Int) (j1 j2 : Nat) (hc0 : 0 ≤ c) (hc1 : c ≤ 255) (ho0 : -9223372036854775808 ≤ o) (ho1 : o ≤ 9223372036854775807) (hs0 : -9223372036854775808 ≤ sh) (hs1 : sh ≤ 9223372036854775807)
    (hL0 : -9223372036854775808 ≤ L1) (hL1 : L1 ≤ 9223372036854775807) (hM0 : -9223372036854775808 ≤ L2) (hM1 : L2 ≤ 9223372036854775807) (w : World) :
    Calls Try.prog 4 #[.int .u8 c, .int .i64 o, .int .i64 sh, .int .i64 L1, .int .i64 L2, .float .f64 j1, .float .f64 j2] w fun e w' => e = .returned (.bool true) ∧ Below w.heap.size w w' := by
  by_cases hL : L1 ≤ 0
  · go_enter Try.func4, Try.ntmps4
    go_wp2_with fail
    go_ret
    exact ⟨rfl, Below.refl _ _⟩
  by_cases hM : L2 ≤ 0
  · go_enter Try.func4, Try.ntmps4
    go_wp2_with fail
    go_ret
    exact ⟨rfl, Below.refl _ _⟩
  cases hg1 : (FloatKind.f64.format.order j1 0 == some .gt || FloatKind.f64.format.order j1 0 == some .eq)
  · go_enter Try.func4, Try.ntmps4
    go_wp2_with fail
    go_ret
    exact ⟨rfl, Below.refl _ _⟩
  cases hl1 : (FloatKind.f64.format.order j1 4607182418800017408 == some .lt)
  · go_enter Try.func4, Try.ntmps4
    go_wp2_with fail
    go_ret
    exact ⟨rfl, Below.refl _ _⟩
  cases hg2 : (FloatKind.f64.format.order j2 0 == some .gt || FloatKind.f64.format.order j2 0 == some .eq)
  · go_enter Try.func4, Try.ntmps4
    go_wp2_with fail
    go_ret
    exact ⟨rfl, Below.refl _ _⟩
  cases hl2 : (FloatKind.f64.format.order j2 4607182418800017408 == some .lt)
  · go_enter Try.func4, Try.ntmps4
    go_wp2_with fail
    go_ret
    exact ⟨rfl, Below.refl _ _⟩
  obtain ⟨J1, HJ1⟩ : ∃ J, Hid (FinV j1 J ∧ J ≤ U) := jitter_ok j1 hg1 hl1
  obtain ⟨J2, HJ2⟩ : ∃ J, Hid (FinV j2 J ∧ J ≤ U) := jitter_ok j2 hg2 hl2
  obtain ⟨N1, rfl⟩ : ∃ N : Nat, L1 = (N : Int) := ⟨L1.toNat, by omega⟩
  obtain ⟨N2, rfl⟩ : ∃ N : Nat, L2 = (N : Int) := ⟨L2.toNat, by omega⟩
  have ho : Hid ((FloatKind.f64.format.order j2 j1 == some .lt) = decide (J2 < J1)) := fin_lt HJ2.out.1 HJ1.out.1
  go_enter Try.func4, Try.ntmps4
  go_upto_if 50 with fail
  go_cut [15, 16] (fun s l wx => RelL s l ∧ wx = w)
  case first =>
    by_cases hlt : N2 < N1
    · go_wp2_with fail
      go_meet
      exact ⟨⟨N2, N1, rfl, rfl, by omega, by omega, by omega⟩, rfl⟩
    · go_wp2_with fail
      go_meet
      exact ⟨⟨N1, N2, rfl, rfl, by omega, by omega, by omega⟩, rfl⟩
  case rest =>
  obtain ⟨⟨S, L, rfl, rfl, hS0, hSL, hL63⟩, rfl⟩ := hcut
  go_upto_if 57 with fail
  go_cut [17, 18] (fun a b wx => RelJ a b ∧ wx = wc)
  case first =>
    cases hlt : (FloatKind.f64.format.order j2 j1 == some .lt)
    · have hd : Hid (J1 ≤ J2) := by
        show _ ≤ _
        have := ho.out; rw [hlt] at this; have := of_decide_eq_false this.symm; omega
      go_wp2_with fail
      go_meet
      exact ⟨⟨j1, j2, J1, J2, rfl, rfl, HJ1.out.1, HJ2.out.1, hd.out, HJ2.out.2⟩, rfl⟩
    · have hd : Hid (J2 ≤ J1) := by
        show _ ≤ _
        have := ho.out; rw [hlt] at this; have := of_decide_eq_true this.symm; omega
      go_wp2_with fail
      go_meet
      exact ⟨⟨j2, j1, J2, J1, rfl, rfl, HJ2.out.1, HJ1.out.1, hd.out, HJ1.out.2⟩, rfl⟩
  case rest =>
  obtain ⟨⟨l, m, Jl, Jm, rfl, rfl, hJl, hJm, hJ, hJU⟩, rfl⟩ := hcut
  have HJ : Hid (FinV l Jl ∧ FinV m Jm ∧ Jl ≤ Jm ∧ Jm ≤ U) := ⟨hJl, hJm, hJ, hJU⟩
  have HU : Hid (Jl ≤ U) := Nat.le_trans hJ hJU
  clear hJl hJm hJ hJU
  have hd1 : Hid (durN S Jm ≤ 86400000000000 ∧ durN S Jl ≤ 86400000000000 ∧ durN L Jl ≤ 86400000000000 ∧ 790000000 ≤ durN S Jm ∧ durN S Jm ≤ durN S Jl ∧ durN S Jl ≤ durN L Jl) := by
    have a1 := dur_le S Jm
    have a2 := dur_le S Jl
    have a3 := dur_le L Jl
    have a4 := dur_ge S Jm HJ.out.2.2.2
    have a5 := spr_lt S hS0
    have a6 := age_bd S
    have a7 := age_bd L
    exact ⟨by omega, by omega, by omega, by omega, dur_anti S HJ.out.2.2.1, dur_mono Jl HU.out hSL⟩
  go_wp2_with fail
  refine (issued_any c o hc0 hc1 ho0 ho1 _).mono ?_
  rintro e w1 ⟨n1, s1, rfl, hT1, hb1⟩
  have z1 := hb1.size
  go_wp2_with fail
  refine (renewal_any n1 s1 _ S m Jm hT1 (by omega) (by omega) hS0 (by omega) HJ.out.2.1 HJ.out.2.2.2 _).mono ?_
  rintro e w2 ⟨n2, s2, rfl, hT2, hb2⟩
  have z2 := after_call hb2
  have B2 := bStep hb1 z1 hb2
  have t12 := tNew hb2
  have ⟨⟨a0, a1, a2⟩, _⟩ := t12
  go_wp2_with fail
  refine (renewal_any n1 s1 _ S l Jl hT1 (by omega) (by omega) hS0 (by omega) HJ.out.1 HU.out _).mono ?_
  rintro e w3 ⟨n3, s3, rfl, hT3, hb3⟩
  have z3 := after_call hb3
  have B3 := bStep B2 (by omega) hb3
  have t13 := tOld t12 z2 hb3
  have t23 := tNew hb3
  have z13 : w1.heap.size < w3.heap.size := by omega
  have ⟨⟨b0, b1, b2⟩, _⟩ := t13
  clear a0 a1 a2
  go_wp2_with fail
  refine (renewal_any n1 s1 _ L l Jl hT1 (by omega) (by omega) (by omega) hL63 HJ.out.1 HU.out _).mono ?_
  rintro e w4 ⟨n4, s4, rfl, hT4, hb4⟩
  have z4 := after_call hb4
  have B4 := bStep B3 (by omega) hb4
  have t14 := tOld t13 z13 hb4
  have t24 := tOld t23 z3 hb4
  have t34 := tNew hb4
  have z14 : w1.heap.size < w4.heap.size := by omega
  have z24 : w2.heap.size < w4.heap.size := by omega
  have ⟨⟨d0, d1, d2⟩, _⟩ := t14
  clear b0 b1 b2
  go_wp2_with fail
  refine (add_any n1 s1 _ sh hT1 (by omega) (by omega) hs0 hs1 _).mono ?_
  rintro e w5 ⟨n5, s5, rfl, hT5, hb5⟩
  have z5 := after_call hb5
  have B5 := bStep B4 (by omega) hb5
  have t15 := tOld t14 z14 hb5
  have t25 := tOld t24 z24 hb5
  have t35 := tOld t34 z4 hb5
  have t45 := tNew hb5
  clear d0 d1 d2
  go_wp2_with fail
  refine (renewal_any n5 s5 _ S l Jl hT5 (by omega) (by omega) hS0 (by omega) HJ.out.1 HU.out _).mono ?_
  rintro e w6 ⟨n6, s6, rfl, hT6, hb6⟩
  have z6 := hb6.size
  have B6 := B5.trans (hb6.mono (by omega))
  have t16 := timeAt_below t15 hb6 (by omega)
  have t26 := timeAt_below t25 hb6 (by omega)
  have t36 := timeAt_below t35 hb6 (by omega)
  have t46 := timeAt_below t45 hb6 (by omega)
  have z16 : w1.heap.size < w6.heap.size := by omega
  have z26 : w2.heap.size < w6.heap.size := by omega
  have z36 : w3.heap.size < w6.heap.size := by omega
  have z46 : w4.heap.size < w6.heap.size := by omega
  have qa : Hid (decide (c * 3153600000000000000 + o < c * 3153600000000000000 + o + ((durN S Jm : Nat) : Int)) = true) := decide_eq_true (by have := hd1.out; omega)
  have qb : Hid (decide (c * 3153600000000000000 + o + ((durN S Jl : Nat) : Int) < c * 3153600000000000000 + o + ((durN S Jm : Nat) : Int)) = false) := decide_eq_false (by have := hd1.out; omega)
  have qc : Hid (decide (c * 3153600000000000000 + o + ((durN L Jl : Nat) : Int) < c * 3153600000000000000 + o + ((durN S Jl : Nat) : Int)) = false) := decide_eq_false (by have := hd1.out; omega)
  have qd : Hid (decide (c * 3153600000000000000 + o + 86400000000000 < c * 3153600000000000000 + o + ((durN L Jl : Nat) : Int)) = false) := decide_eq_false (by have := hd1.out; omega)
  have qe : Hid (decide (c * 3153600000000000000 + o + sh + ((durN S Jl : Nat) : Int) = c * 3153600000000000000 + o + ((durN S Jl : Nat) : Int) + sh) = true) := decide_eq_true (by omega)
  have hd3 : ((durN S Jl : Nat) : Int) ≤ 86400000000000 := by have := hd1.out; omega
  have hH : Held wc w1.heap.size w2.heap.size w3.heap.size w4.heap.size w6.heap.size n1 s1 n2 s2 n3 s3 n4 s4 n6 s6 (w6.alloc (obT n6 s6)) :=
    ⟨(timeAt_old t16 z16 _).1, (timeAt_old t26 z26 _).1, (timeAt_old t36 z36 _).1, (timeAt_old t46 z46 _).1, (timeAt_new w6 n6 s6).1, B6.alloc (by omega) _⟩
  clear t12 t13 t23 t14 t24 t34 t15 t25 t35 t45 t16 t26 t36 t46 z1 z2 z3 z4 z5 z6 z13 z14 z24 B2 B3 B4 B5 B6 hb1 hb2 hb3 hb4 hb5 hb6
  go_upto_region 16 with fail
  generalize w1.heap.size = k1 at *
  generalize w2.heap.size = k2 at *
  generalize w3.heap.size = k3 at *
  generalize w4.heap.size = k4 at *
  generalize w6.alloc (.cells #[.int .u64 n6, .int .i64 s6, .pointer none] 26) = W at *
  generalize w6.heap.size = k6 at *
  clear z16 z26 z36 z46
  go_region_held3 (fun w' => (w'.cell? ⟨k1, 0, none⟩ = some (.int .u64 n1) ∧ w'.cell? ⟨k1, 1, none⟩ = some (.int .i64 s1) ∧ w'.cell? ⟨k1, 2, none⟩ = some (.pointer none)) ∧ (w'.cell? ⟨k2, 0, none⟩ = some (.int .u64 n2) ∧ w'.cell? ⟨k2, 1, none⟩ = some (.int .i64 s2) ∧ w'.cell? ⟨k2, 2, none⟩ = some (.pointer none)) ∧ (w'.cell? ⟨k3, 0, none⟩ = some (.int .u64 n3) ∧ w'.cell? ⟨k3, 1, none⟩ = some (.int .i64 s3) ∧ w'.cell? ⟨k3, 2, none⟩ = some (.pointer none)) ∧ (w'.cell? ⟨k4, 0, none⟩ = some (.int .u64 n4) ∧ w'.cell? ⟨k4, 1, none⟩ = some (.int .i64 s4) ∧ w'.cell? ⟨k4, 2, none⟩ = some (.pointer none)) ∧ (w'.cell? ⟨k6, 0, none⟩ = some (.int .u64 n6) ∧ w'.cell? ⟨k6, 1, none⟩ = some (.int .i64 s6) ∧ w'.cell? ⟨k6, 2, none⟩ = some (.pointer none)) ∧ Below wc.heap.size wc w')
    (first | exact held_kept (Below.refl _ _).drew hH | (apply held_kept <;> assumption))
    (first
      | (go_at_call_of 12 s1; refine (before_any n1 s1 n2 s2 _ _ hT1 hT2 _).mono ?_; rintro e wa ⟨rfl, hba⟩; rw [qa.out])
      | (go_at_call_of 12 s2; refine (before_any n3 s3 n2 s2 _ _ hT3 hT2 _).mono ?_; rintro e wb ⟨rfl, hbb⟩; rw [qb.out])
      | (go_at_call_of 12 s4; refine (before_any n4 s4 n3 s3 _ _ hT4 hT3 _).mono ?_; rintro e wd ⟨rfl, hbd⟩; rw [qc.out])
      | (go_at_call_of 7 s1; refine (add_any n1 s1 _ 86400000000000 hT1 (by omega) (by omega) (by omega) (by omega) _).mono ?_; rintro e we ⟨n7, s7, rfl, hT7, hbe⟩)
      | (go_at_call_of 7 s3; refine (add_any n3 s3 _ sh hT3 (by omega) (by omega) hs0 hs1 _).mono ?_; rintro e wf ⟨n8, s8, rfl, hT8, hbf⟩)
      | (go_at_call 11; refine (after_any n4 s4 n7 s7 _ _ hT4 hT7 _).mono ?_; rintro e wg ⟨rfl, hbg⟩; rw [qd.out])
      | (go_at_call 10; refine (equal_any n6 s6 n8 s8 _ _ hT6 hT8 _).mono ?_; rintro e wh ⟨rfl, hbh⟩; rw [qe.out]))
  go_wp2_with fail
  go_ret
  exact ⟨rfl, (show Held wc k1 k2 k3 k4 k6 n1 s1 n2 s2 n3 s3 n4 s4 n6 s6 _ by assumption).2.2.2.2.2⟩

end Go.Proofs.Qxb6630445a
