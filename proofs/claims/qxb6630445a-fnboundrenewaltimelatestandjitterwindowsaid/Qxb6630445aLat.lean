import Derived.Test.Qxb6630445aHlp
namespace Go.Proofs.Qxb6630445a
open Go.RowKit

set_option maxHeartbeats 4000000 in
theorem lat_walk (c o L : Int) (j : Nat) (hc0 : 0 ≤ c) (hc1 : c ≤ 255) (ho0 : -9223372036854775808 ≤ o) (ho1 : o ≤ 9223372036854775807) (hL0 : -9223372036854775808 ≤ L) (hL1 : L ≤ 9223372036854775807) (w : World) :
    Calls Try.prog 3 #[.int .u8 c, .int .i64 o, .int .i64 L, .float .f64 j] w fun e w' => e = .returned (.bool true) ∧ Below w.heap.size w w' := by
  by_cases hL : L ≤ 0
  · go_enter Try.func3, Try.ntmps3
    go_wp2_with fail
    go_ret
    exact ⟨rfl, Below.refl _ _⟩
  · cases hg : (FloatKind.f64.format.order j 0 == some .gt || FloatKind.f64.format.order j 0 == some .eq)
    · go_enter Try.func3, Try.ntmps3
      go_wp2_with fail
      go_ret
      exact ⟨rfl, Below.refl _ _⟩
    · cases hl : (FloatKind.f64.format.order j 4607182418800017408 == some .lt)
      · go_enter Try.func3, Try.ntmps3
        go_wp2_with fail
        go_ret
        exact ⟨rfl, Below.refl _ _⟩
      · obtain ⟨J, HJ⟩ : ∃ J, Hid (FinV j J ∧ J ≤ U) := jitter_ok j hg hl
        obtain ⟨N, rfl⟩ : ∃ N : Nat, L = (N : Int) := ⟨L.toNat, by omega⟩
        go_enter Try.func3, Try.ntmps3
        go_wp2_with fail
        refine (issued_any c o hc0 hc1 ho0 ho1 _).mono ?_
        rintro e w1 ⟨n1, s1, rfl, hT1, hb1⟩
        have z1 := hb1.size
        go_wp2_with fail
        refine (renewal_any n1 s1 _ N 0 0 hT1 (by omega) (by omega) (by omega) (by omega) fin_0 (Nat.zero_le _) _).mono ?_
        rintro e w2 ⟨n2, s2, rfl, hT2, hb2⟩
        have z2 := after_call hb2
        obtain ⟨⟨a0, a1, a2⟩, _, _, _⟩ := tNew hb2
        have B2 := bStep hb1 z1 hb2
        go_wp2_with fail
        refine (renewal_any n1 s1 _ N j J hT1 (by omega) (by omega) (by omega) (by omega) HJ.out.1 HJ.out.2 _).mono ?_
        rintro e w3 ⟨n3, s3, rfl, hT3, hb3⟩
        have z3 := after_call hb3
        obtain ⟨⟨c0, c1, c2⟩, _, _, _⟩ := tNew hb3
        have z13 : w1.heap.size < w3.heap.size := by omega
        obtain ⟨⟨a0', a1', a2'⟩, _, _, _⟩ := tOld (tNew hb2) z2 hb3
        have B3 := bStep B2 (by omega) hb3
        have hag : ((ageN N : Nat) : Int) ≤ 86400000000000 := by have := age_bd N; omega
        have T2' : TimeAt (w3.alloc (obT n3 s3)) w2.heap.size n2 s2 := timeAt_old (tNew hb3) z3 _
        have T3' : TimeAt (w3.alloc (obT n3 s3)) w3.heap.size n3 s3 := timeAt_new w3 n3 s3
        have B3' : Below w.heap.size w (w3.alloc (obT n3 s3)).drew := (B3.alloc (by omega) _).drew
        have zz : w.heap.size ≤ (w3.alloc (obT n3 s3)).drew.heap.size := by simp; omega
        go_upto_region 8 with fail
        go_cut [12] (fun t wc => ∃ (b : Nat) (n4 s4 : Int), t = .pointer (some ⟨b, 0, none⟩) ∧ IsT n4 s4 (c * 3153600000000000000 + o + ((ageN N : Nat) : Int)) ∧ Laid w.heap.size w (w3.alloc (obT n3 s3)).drew wc b n4 s4)
        case first =>
          go_region_with (first | (go_at_call 8; refine (latest_any N (by omega) (by omega) _).mono ?_; rintro e w' ⟨rfl, rfl⟩) | (go_at_call 7; refine (add_any n1 s1 _ _ hT1 (by omega) (by omega) (by omega) (by omega) _).mono ?_; rintro e w4 ⟨n4, s4, rfl, hT4, hb4⟩; obtain ⟨hc4, hf4⟩ := bcell hb4))
          all_goals
            go_wp2_with fail
            go_meet
            first | exact ⟨_, n4, s4, rfl, hT4, laidA n4 s4 B3' zz hb4⟩ | exact ⟨_, n4, s4, rfl, hT4, laidB n4 s4 B3' zz rfl (by simp) hb4⟩
        case rest =>
          obtain ⟨b4, n4, s4, rfl, hT4, hld⟩ := hcut
          have hspr : ((sprN N : Nat) : Int) ≤ 10000000000 := by have := spr_bd N; omega
          have hwn : IntKind.i64.wrap (-((sprN N : Nat) : Int)) = -((sprN N : Nat) : Int) := by rw [IntKind.wrap_i64]; omega
          obtain ⟨⟨e0, e1, e2⟩, _, _, _⟩ := hld.new
          have U2 : TimeAt wc w2.heap.size n2 s2 := hld.old _ _ _ T2' (by simp; omega)
          have U3 : TimeAt wc w3.heap.size n3 s3 := hld.old _ _ _ T3' (by simp)
          have zc : w3.heap.size < wc.heap.size := by have := hld.size; simp at this; omega
          have zb := hld.lt
          have Bc : Below w.heap.size w wc.drew := hld.below.drew
          have zzc : w.heap.size ≤ wc.drew.heap.size := by simp; omega
          go_upto_region 9 with fail
          go_cut [13] (fun t wd => ∃ (b : Nat) (n5 s5 : Int), t = .pointer (some ⟨b, 0, none⟩) ∧ IsT n5 s5 (c * 3153600000000000000 + o + ((ageN N : Nat) : Int) + -((sprN N : Nat) : Int)) ∧ Laid w.heap.size w wc.drew wd b n5 s5)
          case first =>
            go_region_with (first | (go_at_call 9; refine (forward_any N (by omega) (by omega) _).mono ?_; rintro e w' ⟨rfl, rfl⟩) | (go_at_call 7; refine (add_any n4 s4 _ _ hT4 (by omega) (by omega) (by omega) (by omega) _).mono ?_; rintro e w5 ⟨n5, s5, rfl, hT5, hb5⟩; obtain ⟨hc5, hf5⟩ := bcell hb5))
            all_goals
              go_wp2_with fail
              go_meet
              first | exact ⟨_, n5, s5, rfl, hT5, laidA n5 s5 Bc zzc hb5⟩ | exact ⟨_, n5, s5, rfl, hT5, laidB n5 s5 Bc zzc rfl (by simp) hb5⟩
          case rest =>
            obtain ⟨b5, n5, s5, rfl, hT5, hle⟩ := hcut
            have V2 : TimeAt wc w2.heap.size n2 s2 := hle.old _ _ _ (timeAt_drew U2) (by simp; omega)
            have V3 : TimeAt wc w3.heap.size n3 s3 := hle.old _ _ _ (timeAt_drew U3) (by simp; omega)
            have V4 : TimeAt wc b4 n4 s4 := hle.old _ _ _ (timeAt_drew hld.new) (by simp; omega)
            have V5 := hle.new
            have y5 := hle.lt
            have y4 : b4 < wc.heap.size := by have := hle.size; simp at this; omega
            have y3 : w3.heap.size < wc.heap.size := by have := hle.size; simp at this; omega
            have y2 : w2.heap.size < wc.heap.size := by omega
            have Bd := hle.below
            have q1 : Hid (decide (c * 3153600000000000000 + o + ((durN N 0 : Nat) : Int) = c * 3153600000000000000 + o + ((ageN N : Nat) : Int)) = true) := decide_eq_true (by rw [dur_zero])
            have q2 : Hid (decide (c * 3153600000000000000 + o + ((ageN N : Nat) : Int) < c * 3153600000000000000 + o + ((durN N J : Nat) : Int)) = false) := decide_eq_false (by have := dur_le N J; omega)
            have q3 : Hid (decide (c * 3153600000000000000 + o + ((durN N J : Nat) : Int) < c * 3153600000000000000 + o + ((ageN N : Nat) : Int) + -((sprN N : Nat) : Int)) = false) := decide_eq_false (by have := dur_ge N J HJ.out.2; omega)
            obtain ⟨⟨v0, v1, v2⟩, _, _, _⟩ := V2
            have ⟨⟨x0, x1, x2⟩, _⟩ := V4
            clear a0 a1 a2 c0 c1 c2 a0' a1' a2'
            go_wp2_with fail
            refine (equal_any n2 s2 n4 s4 _ _ hT2 hT4 _).mono ?_
            rintro e w6 ⟨rfl, hb6⟩
            rw [q1.out]
            have z6 := hb6.size
            have W3 := timeAt_below V3 hb6 y3
            have W4 := timeAt_below V4 hb6 y4
            have W5 := timeAt_below V5 hb6 y5
            have Be := Bd.trans (hb6.mono (by omega))
            have ⟨⟨x0', x1', x2'⟩, _⟩ := W3
            have ⟨⟨k0, k1, k2⟩, _⟩ := W4
            go_wp2_with fail
            refine (after_any n3 s3 n4 s4 _ _ hT3 hT4 _).mono ?_
            rintro e w7 ⟨rfl, hb7⟩
            rw [q2.out]
            have z7 := hb7.size
            have X3 := timeAt_below (timeAt_below V3 hb6 y3) hb7 (by omega)
            have X5 := timeAt_below W5 hb7 (by omega)
            have Bf := Be.trans (hb7.mono (by omega))
            obtain ⟨⟨l0, l1, l2⟩, _, _, _⟩ := X3
            obtain ⟨⟨m0, m1, m2⟩, _, _, _⟩ := X5
            go_wp2_with fail
            refine (before_any n3 s3 n5 s5 _ _ hT3 hT5 _).mono ?_
            rintro e w8 ⟨rfl, hb8⟩
            rw [q3.out]
            go_wp2_with fail
            go_ret
            exact ⟨rfl, Bf.trans (hb8.mono (by omega))⟩
end Go.Proofs.Qxb6630445a
