import Derived.Test.Qxb6631253aApp
import Derived.Test.Qxb6631253aChk
namespace Go.Proofs.Qxb6631253a
open Go.RowKit

set_option maxHeartbeats 400000 in
theorem zzb_spl (a : Option Addr) (n c : Nat) (x : Int) (hn : n ≤ maxLen) (w : World) :
    Calls Try.prog 5 #[.slice a n c, .int .i64 x] w fun e w' => e = .returned (.bool (decide (n ≤ 1048576))) ∧ w' = w := by
  unfold maxLen at hn
  by_cases h1 : n ≤ 1048576
  · go_enter Try.func5, Try.ntmps5
    go_wp2
    go_ret
    exact ⟨ret_bool (by simp; omega), rfl⟩
  · go_enter Try.func5, Try.ntmps5
    go_wp2
    go_ret
    exact ⟨ret_bool (by simp; omega), rfl⟩

theorem segC_take {w : World} {a : Option Addr} {c : Nat} {xs : List Int} (h : SegC w a c xs) (k : Nat) (hk : k ≤ xs.length) : SegC w a c (xs.take k) := by
  rcases h with ⟨rfl, rfl, rfl⟩ | ⟨b, o, rfl, hc, h⟩
  · exact .inl ⟨rfl, by simp, rfl⟩
  · refine .inr ⟨b, o, rfl, by simp; omega, fun i hi => ?_⟩
    have hi' : i < k := by simp at hi; omega
    rw [h i (by omega)]
    simp [List.getD, hi']

theorem segC_drop {w : World} {b o c : Nat} {xs : List Int} (h : SegC w (some ⟨b, o, none⟩) c xs) (k : Nat) (hk : k ≤ xs.length) : SegC w (some ⟨b, o + k, none⟩) (c - k) (xs.drop k) := by
  rcases h with ⟨h, _⟩ | ⟨b', o', e, hc, h⟩
  · cases h
  · injection e with e; injection e with e1 e2; subst e1; subst e2
    refine .inr ⟨b, o + k, rfl, by simp; omega, fun i hi => ?_⟩
    have hi' : k + i < xs.length := by simp at hi; omega
    rw [show o + k + i = o + (k + i) by omega, h (k + i) hi']
    simp [List.getD]

theorem ck_take (xs : List Int) (k j : Nat) (h : j < k) : ck (xs.take (253 * k)) j = ck xs j := by
  unfold ck
  rw [List.drop_take, List.take_take, Nat.min_eq_left (by omega)]
theorem ck_drop (xs : List Int) (k j : Nat) : ck (xs.drop (253 * k)) j = ck xs (k + j) := by
  unfold ck
  rw [List.drop_drop, show 253 * k + 253 * j = 253 * (k + j) by omega]

theorem wrap_small (a b : Nat) (h : a + b ≤ 100000) : IntKind.i64.wrap ((a : Int) + (b : Int)) = (a : Int) + (b : Int) := by rw [IntKind.wrap_i64]; omega
theorem wrap64_small (a b : Nat) (h : a + b ≤ 100000) : wrap64 ((a : Int) + (b : Int)) = (a : Int) + (b : Int) := by unfold wrap64; omega

set_option maxRecDepth 20000 in
set_option maxHeartbeats 4000000 in
theorem spl_walk (a : Option Addr) (n c : Nat) (xs : List Int) (hl : xs.length = n) (hnm : n ≤ maxLen) (x : Int) (w : World)
    (h : (a = none ∧ n = 0 ∧ c = 0) ∨ ∃ y, a = some y ∧ ∀ i, i < n → w.cell? (y.add i) = some (.int .u8 (xs.getD i 0))) :
    Calls Try.prog 3 #[.slice a n c, .int .i64 x] w fun e w' => e = .returned (.bool true) ∧ Below w.heap.size w w' := by
  have Hh : Hid ((a = none ∧ n = 0 ∧ c = 0) ∨ ∃ y, a = some y ∧ ∀ i, i < n → w.cell? (y.add i) = some (.int .u8 (xs.getD i 0))) := h
  have HL : Hid (xs.length = n) := hl
  clear h hl
  by_cases hn : n ≤ 1048576
  · have HD : Hid (decide (n ≤ 1048576) = true) := decide_eq_true hn
    go_enter Try.func3, Try.ntmps3
    go_wp2_with fail
    refine (zzb_spl _ _ _ _ hnm _).mono ?_
    rintro e w' ⟨rfl, rfl⟩
    rw [HD.out]
    go_wp2_with fail
    refine (clone_any a n c xs HL.out hn _ Hh.out).mono ?_
    rintro e w1 ⟨a0, c0, rfl, hs1, hb1⟩
    have hl := HL.out
    subst hl
    clear HL Hh
    go_wp2_with fail
    refine (eap_any a0 c0 xs (by omega) w1 hs1).mono ?_
    rintro e w2 ⟨r, vs, rfl, hvs, hat, hsg, hb2⟩
    have B2 := hb1.trans (hb2.mono hb1.size)
    have hs2 := hs1.later hb2
    obtain ⟨g, cap, rfl, _, hg⟩ := hat
    have Hg2 : Hid (∀ j, j < vs.length → w2.cell? ⟨g, j * 2, none⟩ = some (.int .u8 79) ∧ w2.cell? ⟨g, j * 2 + 1, none⟩ = some (vs.getD j undef)) := hg
    have Hsg2 : Hid (∀ j, j < vs.length → Seg w2 (vs.getD j undef) (ck xs j)) := hsg
    have Hvs : Hid (vs.length = cnt xs.length) := hvs
    clear hg hsg hvs hs1
    go_wp2_with fail
    refine (isck_any a0 c0 xs (by omega) g cap vs Hvs.out w2 hs2 Hg2.out Hsg2.out).mono ?_
    rintro e w3 ⟨rfl, hb3⟩
    have B3 := B2.trans (hb3.mono B2.size)
    have hs3 := hs2.later hb3
    have Hg3 : Hid (∀ j, j < vs.length → w3.cell? ⟨g, j * 2, none⟩ = some (.int .u8 79) ∧ w3.cell? ⟨g, j * 2 + 1, none⟩ = some (vs.getD j undef)) := fun j hj => ⟨cell_later hb3 (Hg2.out j hj).1, cell_later hb3 (Hg2.out j hj).2⟩
    have Hsg3 : Hid (∀ j, j < vs.length → Seg w3 (vs.getD j undef) (ck xs j)) := fun j hj => (Hsg2.out j hj).later hb3
    clear Hg2 Hsg2 hs2
    by_cases hx1 : x < 1
    · go_wp2_with fail
      go_ret
      exact ⟨rfl, B3⟩
    by_cases hx2 : (65536 : Int) < x
    · go_wp2_with fail
      go_ret
      exact ⟨rfl, B3⟩
    obtain ⟨k, rfl⟩ : ∃ k : Nat, x = (k : Int) := ⟨x.toNat, by omega⟩
    by_cases hx3 : (xs.length : Int) ≤ 253 * (k : Int)
    · go_wp2_with fail
      go_ret
      exact ⟨rfl, B3⟩
    obtain ⟨b0, o0, rfl, hcap⟩ : ∃ b o, a0 = some ⟨b, o, none⟩ ∧ xs.length ≤ c0 := by
      rcases hs3 with ⟨_, h, _⟩ | ⟨b, o, h1, h2, _⟩
      · subst h; simp at hx3; omega
      · exact ⟨b, o, h1, h2⟩
    have hk1 : 253 * k < xs.length := by omega
    have hk0 : 0 < k := by omega
    have hE := eap_any (some ⟨b0, o0, none⟩) c0 (xs.take (253 * k)) (by simp; omega) w3 (segC_take hs3 (253 * k) (by omega))
    rw [show (xs.take (253 * k)).length = 253 * k by simp; omega] at hE
    go_wp2_with fail
    refine hE.mono ?_
    clear hE
    rintro e w4 ⟨r, us, rfl, hus, hau, hsu, hb4⟩
    have B4 := B3.trans (hb4.mono B3.size)
    have hs4 := hs3.later hb4
    have hE := eap_any (some ⟨b0, o0 + 253 * k, none⟩) (c0 - 253 * k) (xs.drop (253 * k)) (by simp; omega) w4 (segC_drop hs4 (253 * k) (by omega))
    rw [show (xs.drop (253 * k)).length = xs.length - 253 * k by simp] at hE
    obtain ⟨gu, capu, rfl, _, hgu⟩ := hau
    have Hus : Hid (us.length = cnt (253 * k)) := hus
    have Hau : Hid (∀ j, j < us.length → w4.cell? ⟨gu, j * 2, none⟩ = some (.int .u8 79) ∧ w4.cell? ⟨gu, j * 2 + 1, none⟩ = some (us.getD j undef)) := hgu
    have Hsu : Hid (∀ j, j < us.length → Seg w4 (us.getD j undef) (ck (xs.take (253 * k)) j)) := hsu
    clear hus hgu hsu
    go_wp2_with fail
    refine hE.mono ?_
    clear hE
    rintro e w5 ⟨r', ts, rfl, hts, hat, hst, hb5⟩
    have B5 := B4.trans (hb5.mono B4.size)
    obtain ⟨gt, capt, rfl, _, hgt⟩ := hat
    have Hk : Hid (us.length = k ∧ us.length + ts.length = vs.length ∧ vs.length ≤ 5000) := by
      have h1 := Hus.out; have h2 := hts; have h3 := Hvs.out
      unfold cnt at h1 h2 h3
      rw [if_neg (by omega)] at h1 h2 h3
      exact ⟨by omega, by omega, by omega⟩
    have H1 : Hid (∀ j, j < vs.length → (w5.cell? ⟨g, j * 2, none⟩ = some (.int .u8 79) ∧ w5.cell? ⟨g, j * 2 + 1, none⟩ = some (vs.getD j undef)) ∧ Seg w5 (vs.getD j undef) (ck xs j)) := fun j hj =>
      ⟨⟨cell_later hb5 (cell_later hb4 (Hg3.out j hj).1), cell_later hb5 (cell_later hb4 (Hg3.out j hj).2)⟩, ((Hsg3.out j hj).later hb4).later hb5⟩
    have H2 : Hid (∀ j, j < us.length → (w5.cell? ⟨gu, j * 2, none⟩ = some (.int .u8 79) ∧ w5.cell? ⟨gu, j * 2 + 1, none⟩ = some (us.getD j undef)) ∧ Seg w5 (us.getD j undef) (ck xs j)) := fun j hj => by
      have h3 := (Hsu.out j hj).later hb5
      rw [ck_take xs k j (by have := Hk.out; omega)] at h3
      exact ⟨⟨cell_later hb5 (Hau.out j hj).1, cell_later hb5 (Hau.out j hj).2⟩, h3⟩
    have H3 : Hid (∀ j, j < ts.length → (w5.cell? ⟨gt, j * 2, none⟩ = some (.int .u8 79) ∧ w5.cell? ⟨gt, j * 2 + 1, none⟩ = some (ts.getD j undef)) ∧ Seg w5 (ts.getD j undef) (ck xs (us.length + j))) := fun j hj => by
      have h3 := hst j hj
      rw [ck_drop xs k j] at h3
      rw [Hk.out.1]
      exact ⟨hgt j hj, h3⟩
    clear hts hst hgt Hus Hau Hsu Hg3 Hsg3 Hvs hs3 hs4 hb3 hb4 hb5
    generalize hmv : vs.length = mv at *
    generalize hmu : us.length = mu at *
    generalize hmt : ts.length = mt at *
    clear hmv hmu hmt
    have q1 : ((mu : Int) + (mt : Int) != (mv : Int)) = false := by have := Hk.out; simp; omega
    have hm1 : mu ≤ 5000 := by have := Hk.out; omega
    have hm2 : mt ≤ 5000 := by have := Hk.out; omega
    have hm3 : mu + mt ≤ mv := by have := Hk.out; omega
    go_wp2_with fail
    go_loopw [9] (fun i wr => ∃ t : Nat, t ≤ mu ∧ i = .int .i64 t ∧ Below w5.heap.size w5 wr) (fun i _ => mu - (intOf i).toNat)
    case atStart => exact ⟨0, by omega, rfl, Below.refl _ _⟩
    case round =>
      obtain ⟨t, ht, rfl, hbr⟩ := hrel
      by_cases hlt : t < mu
      · have hki : (t : Int) < (mu : Int) := by omega
        have hki' : (t : Int) < (mv : Int) := by omega
        obtain ⟨⟨e1, e2⟩, e3⟩ := H1.out t (by omega)
        obtain ⟨⟨f1, f2⟩, f3⟩ := H2.out t hlt
        have e1 := cell_later hbr e1
        have e2 := cell_later hbr e2
        have f1 := cell_later hbr f1
        have f2 := cell_later hbr f2
        have G1 : Hid (Seg wr (vs.getD t undef) (ck xs t)) := e3.later hbr
        have G2 : Hid (Seg wr (us.getD t undef) (ck xs t)) := f3.later hbr
        clear e3 f3
        generalize vs.getD t undef = y1 at *
        generalize us.getD t undef = y2 at *
        go_upto_region 21 with fail
        go_region_with (first | (go_at_call 9; refine (same_any y1 y2 (ck xs t) (by simp [ck]; omega) _ (G1.out.later (Below.refl _ _).drew) (G2.out.later (Below.refl _ _).drew)).mono ?_; rintro e w6 ⟨rfl, hb6⟩))
        all_goals
          have hbn : Below w5.heap.size w5 w6 := below_next hbr hb6
          go_wp2_with fail
          exact ⟨⟨t + 1, by omega, by go_num, hbn⟩, by simp [intOf]; omega⟩
      · go_wp2_with fail
        go_loopw [10] (fun i wq => ∃ t : Nat, t ≤ mt ∧ i = .int .i64 t ∧ Below w5.heap.size w5 wq) (fun i _ => mt - (intOf i).toNat)
        case atStart => exact ⟨0, by omega, rfl, hbr⟩
        case round =>
          obtain ⟨p, hp, rfl, hbq⟩ := hrel
          by_cases hlt2 : p < mt
          · have hki : (p : Int) < (mt : Int) := by omega
            have hki' : (mu : Int) + (p : Int) < (mv : Int) := by omega
            have hki0 : (0 : Int) ≤ (mu : Int) + (p : Int) := by omega
            have hkt : ((mu : Int) + (p : Int)).toNat = mu + p := by omega
            have hmp : mu + p < mv := by omega
            have hckl : (ck xs (mu + p)).length ≤ 1048577 := by simp [ck]; omega
            have hw1 := wrap_small mu p (by omega)
            have hw2 := wrap64_small mu p (by omega)
            obtain ⟨⟨e1, e2⟩, e3⟩ := H1.out (mu + p) hmp
            obtain ⟨⟨f1, f2⟩, f3⟩ := H3.out p hlt2
            have e1 := cell_later hbq e1
            have e2 := cell_later hbq e2
            have f1 := cell_later hbq f1
            have f2 := cell_later hbq f2
            have G1 : Hid (Seg wr (vs.getD (mu + p) undef) (ck xs (mu + p))) := e3.later hbq
            have G2 : Hid (Seg wr (ts.getD p undef) (ck xs (mu + p))) := f3.later hbq
            clear e3 f3
            generalize vs.getD (mu + p) undef = y1 at *
            generalize ts.getD p undef = y2 at *
            go_upto_region 26 with fail
            go_region_with (first | (go_at_call 9; refine (same_any y1 y2 (ck xs (mu + p)) hckl _ (G1.out.later (Below.refl _ _).drew) (G2.out.later (Below.refl _ _).drew)).mono ?_; rintro e w6 ⟨rfl, hb6⟩))
            all_goals
              have hbn : Below w5.heap.size w5 w6 := below_next hbq hb6 hbq.size
              clear hw1 hw2
              go_wp2_with fail
              exact ⟨⟨p + 1, by omega, by go_num, hbn⟩, by simp [intOf]; omega⟩
          · go_wp2_with fail
            go_ret
            exact ⟨rfl, B5.trans (hbq.mono B5.size)⟩
  · have HD : Hid (decide (n ≤ 1048576) = false) := decide_eq_false hn
    go_enter Try.func3, Try.ntmps3
    go_wp2_with fail
    refine (zzb_spl _ _ _ _ hnm _).mono ?_
    rintro e w' ⟨rfl, rfl⟩
    rw [HD.out]
    go_wp2_with fail
    go_ret
    exact ⟨rfl, Below.refl _ _⟩
end Go.Proofs.Qxb6631253a
