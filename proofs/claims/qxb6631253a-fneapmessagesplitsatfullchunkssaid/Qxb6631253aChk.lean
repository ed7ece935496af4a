import Derived.Test.Qxb6631253aSam
import Derived.Deep.RegionHeld3
import Derived.Deep.DeepCutAuto
namespace Go.Proofs.Qxb6631253a
open Go.RowKit

theorem seg_shape {w : World} {v : Value} {xs : List Int} (h : Seg w v xs) : ∃ a c, v = .slice a xs.length c ∧ (0 < xs.length → ∃ b o, a = some ⟨b, o, none⟩ ∧ ∀ i, i < xs.length → w.cell? ⟨b, o + i, none⟩ = some (.int .u8 (xs.getD i 0))) := by
  rcases h with ⟨rfl, a, c, rfl⟩ | ⟨b, o, c, rfl, h⟩
  · exact ⟨a, c, rfl, fun h => by simp at h⟩
  · exact ⟨_, c, rfl, fun _ => ⟨b, o, rfl, h⟩⟩
theorem segC_shape {w : World} {a : Option Addr} {c : Nat} {xs : List Int} (h : SegC w a c xs) : 0 < xs.length → ∃ b o, a = some ⟨b, o, none⟩ ∧ ∀ i, i < xs.length → w.cell? ⟨b, o + i, none⟩ = some (.int .u8 (xs.getD i 0)) := by
  rcases h with ⟨_, rfl, _⟩ | ⟨b, o, h1, _, h3⟩
  · intro h; simp at h
  · exact fun _ => ⟨b, o, h1, h3⟩

theorem ck_len (xs : List Int) (k : Nat) : (ck xs k).length = min 253 (xs.length - 253 * k) := by simp [ck]

set_option maxRecDepth 20000 in
set_option maxHeartbeats 2000000 in
theorem isck_any (a0 : Option Addr) (c0 : Nat) (xs : List Int) (hx : xs.length ≤ 1048577) (g cap : Nat) (vs : List Value) (hvs : vs.length = cnt xs.length) (w : World) (hs : SegC w a0 c0 xs)
    (hg : ∀ j, j < vs.length → w.cell? ⟨g, j * 2, none⟩ = some (.int .u8 79) ∧ w.cell? ⟨g, j * 2 + 1, none⟩ = some (vs.getD j undef)) (hsg : ∀ j, j < vs.length → Seg w (vs.getD j undef) (ck xs j)) :
    Calls Try.prog 8 #[.slice a0 xs.length c0, .slice (some ⟨g, 0, none⟩) vs.length cap] w fun e w' => e = .returned (.bool true) ∧ Below w.heap.size w w' := by
  have Hs : Hid (0 < xs.length → ∃ b o, a0 = some ⟨b, o, none⟩ ∧ ∀ i, i < xs.length → w.cell? ⟨b, o + i, none⟩ = some (.int .u8 (xs.getD i 0))) := segC_shape hs
  have Hg : Hid (∀ j, j < vs.length → w.cell? ⟨g, j * 2, none⟩ = some (.int .u8 79) ∧ w.cell? ⟨g, j * 2 + 1, none⟩ = some (vs.getD j undef)) := hg
  have Hsg : Hid (∀ j, j < vs.length → Seg w (vs.getD j undef) (ck xs j)) := hsg
  clear hs hg hsg
  generalize hm : vs.length = m at *
  generalize hn : xs.length = n at *
  have HN : Hid (xs.length = n ∧ m = cnt n) := ⟨hn, hvs⟩
  have HQ : Hid (253 * (m - 1) ≤ n ∧ n ≤ 253 * m ∧ 0 < m ∧ m ≤ 5000) := by
    have := hvs; unfold cnt at this
    by_cases h0 : n = 0
    · rw [if_pos h0] at this; exact ⟨by omega, by omega, by omega, by omega⟩
    · rw [if_neg h0] at this; exact ⟨by omega, by omega, by omega, by omega⟩
  have Q0 : Hid ((n = 0 → m = 1) ∧ (0 < n → (m : Int) = ((n : Int) + 253 - 1) / 253)) := by
    have := hvs; unfold cnt at this
    by_cases h0 : n = 0
    · rw [if_pos h0] at this; exact ⟨fun _ => this, fun h => by omega⟩
    · rw [if_neg h0] at this; exact ⟨fun h => by omega, fun _ => by omega⟩
  have hmb : m ≤ 5000 := HQ.out.2.2.2
  have hm0 : 0 < m := HQ.out.2.2.1
  clear hvs hm hn
  go_enter Try.func8, Try.ntmps8
  go_upto_if 15 with fail
  go_cut [6] (fun t wx => t = .int .i64 m ∧ wx = w)
  case first =>
    by_cases h0 : (0 : Int) < (n : Int)
    · go_wp2_with fail
      go_meet
      exact ⟨by have := Q0.out.2 (by omega); rw [this], rfl⟩
    · go_wp2_with fail
      go_meet
      exact ⟨by have := Q0.out.1 (by omega); rw [this]; rfl, rfl⟩
  case rest =>
  obtain ⟨rfl, rfl⟩ := hcut
  have q1 : ((m : Int) != (m : Int)) = false := by simp
  go_wp2_with fail
  go_loopw [7, 8] (fun p i wr => ∃ k : Nat, k ≤ m ∧ i = .int .i64 k ∧ p = .int .i64 (min n (253 * k) : Nat) ∧ Below wc.heap.size wc wr) (fun _ i _ => m - (intOf i).toNat)
  case atStart => exact ⟨0, by omega, rfl, by simp, Below.refl _ _⟩
  case round =>
    obtain ⟨k, hk, rfl, rfl, hbr⟩ := hrel
    by_cases hlt : k < m
    · have hki : (k : Int) < (m : Int) := by omega
      obtain ⟨e1, e2⟩ := Hg.out k hlt
      have e1 := cell_later hbr e1
      have e2 := cell_later hbr e2
      have hpos : min n (253 * k) = 253 * k := by have := HQ.out; omega
      obtain ⟨av, cv, ev, hcv⟩ := seg_shape ((Hsg.out k hlt).later hbr)
      rw [ev] at e2
      have HCV : Hid (0 < (ck xs k).length → ∃ b o, av = some ⟨b, o, none⟩ ∧ ∀ i, i < (ck xs k).length → wr.cell? ⟨b, o + i, none⟩ = some (.int .u8 ((ck xs k).getD i 0))) := hcv
      have hl := ck_len xs k
      have HL : Hid ((ck xs k).length = min 253 (n - 253 * k)) := by show _ = _; rw [hl, HN.out.1]
      have HX : Hid (∀ i, i < (ck xs k).length → (ck xs k).getD i 0 = xs.getD (253 * k + i) 0) := fun i hi => getD_ck xs k i hi
      clear hcv ev hl
      rw [hpos]
      clear hpos
      generalize (ck xs k) = Lx at *
      generalize hln : Lx.length = ln at *
      have HLn : Hid (Lx.length = ln) := hln
      clear hln
      have hlb : ln ≤ 253 := by have := HL.out; omega
      have hgl : g < wr.heap.size := World.block_lt_of_cell? _ _ e1
      have hpl : ((253 * k : Nat) : Int) + (ln : Int) ≤ (n : Int) := by have := HL.out; have := HQ.out; omega
      have hkb : 253 * k ≤ 1048577 := by have := HQ.out; omega
      have HK : Hid (k < m - 1 → ln = 253) := fun h => by have := HL.out; have := HQ.out; omega
      have HE : Hid (253 * k + ln = min n (253 * (k + 1))) := by show _ = _; have := HL.out; have := HQ.out; omega
      generalize hps : 253 * k = ps at *
      clear hps
      go_upto_if 44 with fail
      go_cut [] (fun wx => wx = wr.alloc (.cells #[.int .u8 79, .slice av ln cv] 31))
      case first =>
        by_cases hk1 : (k : Int) < (m : Int) - 1
        · have q2 : ((ln : Int) != 253) = false := by have := HK.out (by omega); simp; omega
          go_wp2_with fail
          go_meet
          rfl
        · have q2 : ¬ (253 : Int) < (ln : Int) := by omega
          go_wp2_with fail
          go_meet
          rfl
      case rest =>
      subst hcut
      go_wp2_with fail
      go_loopw [11] (fun i wq => ∃ t : Nat, t ≤ ln ∧ i = .int .i64 t ∧ ∃ q, wq = (wr.alloc (.cells #[.int .u8 79, .slice av ln cv] 31)).drewN q) (fun i _ => ln - (intOf i).toNat)
      case atStart => exact ⟨0, by omega, rfl, 0, rfl⟩
      case round =>
        obtain ⟨t, ht, rfl, q, rfl⟩ := hrel
        by_cases hlt2 : t < ln
        · obtain ⟨b2, o2, ea2, hcb⟩ := HCV.out (by omega)
          obtain ⟨b1, o1, ea1, hca⟩ := Hs.out (by omega)
          have x1 := cell_later hbr (hca (ps + t) (by omega))
          have x2 := hcb t hlt2
          rw [HX.out t hlt2] at x2
          have hb2l : b2 < wr.heap.size := World.block_lt_of_cell? _ _ x2
          have hb1l : b1 < wr.heap.size := World.block_lt_of_cell? _ _ x1
          have t1 : (t : Int) < (ln : Int) := by omega
          have t2 : (ps : Int) + (t : Int) < (n : Int) := by omega
          clear hcb hca
          subst ea2
          subst ea1
          generalize xs.getD (ps + t) 0 = y at *
          go_wp2_with fail
          go_quiet (fail)
          go_wp2_with fail
          exact ⟨⟨t + 1, by omega, by go_num, q + nq, rfl⟩, by simp [intOf]; omega⟩
        · go_wp2_with fail
          refine ⟨⟨k + 1, by omega, by go_num, ?_, below_drewN (hbr.alloc hbr.size _) _⟩, by simp [intOf]; omega⟩
          rw [← HE.out, Int.natCast_add]
    · have hkm : k = m := by omega
      have hpos : min n (253 * k) = n := by have := HQ.out; omega
      rw [hpos]
      have q3 : ((n : Int) == (n : Int)) = true := by simp
      go_wp2_with fail
      go_ret
      exact ⟨rfl, hbr⟩
end Go.Proofs.Qxb6631253a
