import Derived.Test.Qxb6631253aSam
import Derived.Deep.RegionHeld3
import Derived.Deep.DeepCutAuto
namespace Go.Proofs.Qxb6631253a
open Go.RowKit

theorem ret_bool {a b : Bool} (h : a = b) : Ending.returned (.bool a) = .returned (.bool b) := by rw [h]

set_option maxHeartbeats 400000 in
theorem zzb_app (a : Option Addr) (n c : Nat) (x : Int) (hn : n ≤ maxLen) (w : World) :
    Calls Try.prog 10 #[.slice a n c, .int .u8 x] w fun e w' => e = .returned (.bool (decide (n ≤ 1048576))) ∧ w' = w := by
  unfold maxLen at hn
  by_cases h1 : n ≤ 1048576
  · go_enter Try.func10, Try.ntmps10
    go_wp2
    go_ret
    exact ⟨ret_bool (by simp; omega), rfl⟩
  · go_enter Try.func10, Try.ntmps10
    go_wp2
    go_ret
    exact ⟨ret_bool (by simp; omega), rfl⟩

theorem row_cells {w : World} {g : Nat} {xs : List Int} {t : TypeId} {cs : Array Value} (h : w.heap[g]? = some (.cells cs t (0, 0))) (hcs : ∀ i, i < xs.length → cs[i]? = some (.int .u8 (xs.getD i 0))) :
    ∀ i, i < xs.length → w.cell? ⟨g, i, none⟩ = some (.int .u8 (xs.getD i 0)) := by
  intro i hi
  rw [cell_of_row w g i cs t (0, 0) h]
  exact hcs i hi

theorem bys_getD (xs : List Int) (i : Nat) (h : i < xs.length) : (bys xs)[i]? = some (.int .u8 (xs.getD i 0)) := by
  simp [bys, List.getD, h]

theorem clone_any (a : Option Addr) (n c : Nat) (xs : List Int) (hl : xs.length = n) (hn : n ≤ 1048576) (w : World) (h : (a = none ∧ n = 0 ∧ c = 0) ∨ ∃ x, a = some x ∧ ∀ i, i < n → w.cell? (x.add i) = some (.int .u8 (xs.getD i 0))) :
    Calls Try.prog 6 #[.slice a n c] w fun e w' => ∃ a0 c0, e = .returned (.slice a0 n c0) ∧ SegC w' a0 c0 xs ∧ Below w.heap.size w w' := by
  rcases h with ⟨rfl, rfl, rfl⟩ | ⟨x, rfl, hc⟩
  · refine (clone_nil w).mono ?_
    rintro e w' ⟨rfl, rfl⟩
    exact ⟨none, 0, rfl, .inl ⟨rfl, List.eq_nil_of_length_eq_zero hl, rfl⟩, Below.refl _ _⟩
  · refine (clone_row x n c xs hl hn w hc).mono ?_
    rintro e w' ⟨rfl, hh, hb⟩
    refine ⟨_, n, rfl, .inr ⟨w.heap.size, 0, rfl, by omega, fun i hi => ?_⟩, hb⟩
    rw [Nat.zero_add]
    exact row_cells hh (fun i hi => by simpa using bys_getD xs i hi) i hi

/-- the longer packet, made and filled -/
theorem ext_copy (a0 : Option Addr) (c0 : Nat) (xs : List Int) (hx : xs.length ≤ 1048576) (W : World) (hs : SegC W a0 c0 xs) :
    ∃ w2, (Builtin.copy_ #[22, 22] 3 #[.slice (some ⟨W.heap.size, 0, none⟩) (xs.length + 1) (xs.length + 1), .slice a0 xs.length c0]).run Try.prog (W.alloc (.cells (madeCells #[.int .u8 0] (xs.length + 1)) 5)) = .ok (goInt xs.length) w2 ∧
      (∃ cs, w2.heap[W.heap.size]? = some (.cells cs 5 (0, 0)) ∧ cs.size = xs.length + 1 ∧ ∀ i, i < xs.length → cs[i]? = some (.int .u8 (xs.getD i 0))) ∧ Below W.heap.size W w2 := by
  have hal : Below W.heap.size W (W.alloc (.cells (madeCells #[.int .u8 0] (xs.length + 1)) 5)) := (Below.refl _ _).alloc (Nat.le_refl _) _
  rcases hs with ⟨rfl, rfl, rfl⟩ | ⟨b, o, rfl, _, hc⟩
  · refine ⟨_, run_copy_none (P := Try.prog) _ 22 22 3 5 _ _ _ _ _ _ Try.underlying22 size5 rfl, ⟨_, heap_alloc_new W _, size_madeCells _ _, fun i hi => by simp at hi⟩, hal⟩
  · refine ⟨_, copy_any W.heap.size (xs.length + 1) xs.length ⟨b, o, none⟩ c0 xs rfl (by omega) _ _ (heap_alloc_new W _) (size_madeCells _ _) (fun i hi => ?_), ⟨_, setRow_new W _ _ 5, ?_, fun i hi => ?_⟩, below_setRow hal (Nat.le_refl _) _⟩
    · have : (⟨b, o, none⟩ : Addr).add i = ⟨b, o + i, none⟩ := by unfold Addr.add; split <;> simp_all
      rw [this]; exact cell_later hal (hc i hi)
    · simp [bys_length, size_madeCells]
    · simp only [List.getElem?_toArray]
      rw [List.getElem?_append_left (by rw [bys_length]; exact hi)]
      exact bys_getD xs i hi

/-- behind the store of the last byte -/
theorem ext_seg {W w2 : World} {xs : List Int} (x : Int) (hh : ∃ cs, w2.heap[W.heap.size]? = some (.cells cs 5 (0, 0)) ∧ cs.size = xs.length + 1 ∧ ∀ i, i < xs.length → cs[i]? = some (.int .u8 (xs.getD i 0))) :
    SegC (w2.setCell ⟨W.heap.size, xs.length, none⟩ (.int .u8 x)) (some ⟨W.heap.size, 0, none⟩) (xs.length + 1) (xs ++ [x]) := by
  obtain ⟨cs, h1, h2, h3⟩ := hh
  refine .inr ⟨W.heap.size, 0, rfl, by simp, fun i hi => ?_⟩
  rw [Nat.zero_add]
  have hi' : i < xs.length + 1 := by simpa using hi
  rcases Nat.lt_or_ge i xs.length with h | h
  · rw [World.cell?_setCell_other _ _ _ _ (fun e => by injection e; omega), cell_of_row w2 _ i cs 5 (0, 0) h1, h3 i h]
    simp [List.getD, List.getElem?_append_left h]
  · have : i = xs.length := by omega
    subst this
    rw [World.cell?_setCell_same _ _ _ (u := cs[xs.length]) (by rw [cell_of_row w2 _ _ cs 5 (0, 0) h1]; simp [h2])]
    simp [List.getD]

theorem below_next {B : Nat} {w5 wr w6 : World} (hbr : Below B w5 wr) (hb6 : Below wr.drew.heap.size wr.drew w6) (hB : B ≤ wr.heap.size := by have := hbr.size; omega) : Below B w5 w6 :=
  hbr.drew.trans (hb6.mono hB)

theorem Seg.shape {w : World} {v : Value} {xs : List Int} (h : Seg w v xs) : ∃ a c, v = .slice a xs.length c ∧ (0 < xs.length → ∃ b o, a = some ⟨b, o, none⟩ ∧ ∀ i, i < xs.length → w.cell? ⟨b, o + i, none⟩ = some (.int .u8 (xs.getD i 0))) := by
  rcases h with ⟨rfl, a, c, rfl⟩ | ⟨b, o, c, rfl, h⟩
  · exact ⟨a, c, rfl, fun h => by simp at h⟩
  · exact ⟨_, c, rfl, fun _ => ⟨b, o, rfl, h⟩⟩

theorem ck_snoc (xs : List Int) (x : Int) (j : Nat) (h : 253 * (j + 1) ≤ xs.length) : ck (xs ++ [x]) j = ck xs j := by
  unfold ck
  rw [List.drop_append, List.take_append, List.length_drop, show 253 - (xs.length - 253 * j) = 0 by omega]
  simp

set_option maxRecDepth 20000 in
set_option maxHeartbeats 4000000 in
theorem app_walk (a : Option Addr) (n c : Nat) (xs : List Int) (hl : xs.length = n) (hnm : n ≤ maxLen) (x : Int) (w : World)
    (h : (a = none ∧ n = 0 ∧ c = 0) ∨ ∃ y, a = some y ∧ ∀ i, i < n → w.cell? (y.add i) = some (.int .u8 (xs.getD i 0))) :
    Calls Try.prog 4 #[.slice a n c, .int .u8 x] w fun e w' => e = .returned (.bool true) ∧ Below w.heap.size w w' := by
  have Hh : Hid ((a = none ∧ n = 0 ∧ c = 0) ∨ ∃ y, a = some y ∧ ∀ i, i < n → w.cell? (y.add i) = some (.int .u8 (xs.getD i 0))) := h
  clear h
  subst hl
  generalize hl : xs.length = n at *
  have HL : Hid (xs.length = n) := hl
  clear hl
  by_cases hn : n ≤ 1048576
  · have HD : Hid (decide (n ≤ 1048576) = true) := decide_eq_true hn
    obtain ⟨i0, hi, hz0, hz1, hz2⟩ := info_parts info5
    go_enter Try.func4, Try.ntmps4
    go_wp2_with fail
    refine (zzb_app _ _ _ _ hnm _).mono ?_
    rintro e w' ⟨rfl, rfl⟩
    rw [HD.out]
    go_wp2_with fail
    refine (clone_any a n c xs HL.out hn _ Hh.out).mono ?_
    rintro e w1 ⟨a0, c0, rfl, hs1, hb1⟩
    have hl := HL.out
    subst hl
    clear HL
    have hmk := run_make (P := Try.prog) w1 22 5 i0 (.int .u8 0) Try.underlying22 hi hz0 .i64 .i64 ((xs.length : Int) + 1) ((xs.length : Int) + 1) (by omega) (by omega) (by rw [hz2]; omega) (by omega)
    rw [hz1, show ((xs.length : Int) + 1).toNat = xs.length + 1 by omega, Nat.mul_one] at hmk
    obtain ⟨w2, hcp, hh, hb2⟩ := ext_copy a0 c0 xs hn w1 hs1
    have hseg := ext_seg x hh
    obtain ⟨cs, g1, g2, g3⟩ := hh
    obtain ⟨u, hc2⟩ : ∃ u, w2.cell? ⟨w1.heap.size, xs.length, none⟩ = some u := ⟨cs[xs.length], by rw [cell_of_row w2 _ _ cs 5 (0, 0) g1]; simp [g2]⟩
    have hf2 : w2.frozen? ⟨w1.heap.size, xs.length, none⟩ = false := frozen_of_row w2 _ _ cs 5 g1
    clear hi hz0 hz1 hz2 g1 g2 g3
    have hb3 : Below w1.heap.size w1 (w2.setCell ⟨w1.heap.size, xs.length, none⟩ (.int .u8 x)) := hb2.setCell (Nat.le_refl _) _
    have hs3 := hs1.later hb3
    have B3 := hb1.trans (hb3.mono hb1.size)
    go_wp2_with fail
    clear hmk hcp hc2 hf2 hb2 hs1
    generalize w2.setCell ⟨w1.heap.size, xs.length, none⟩ (.int .u8 x) = w3 at *
    refine (eap_any a0 c0 xs (by omega) w3 hs3).mono ?_
    rintro e w4 ⟨r, vs, rfl, hvs, hat, hsg, hb4⟩
    have hseg4 := hseg.later hb4
    have B4 := B3.trans (hb4.mono B3.size)
    have hE := eap_any (some ⟨w1.heap.size, 0, none⟩) (xs.length + 1) (xs ++ [x]) (by simp; omega) w4 hseg4
    rw [show (xs ++ [x]).length = xs.length + 1 by simp] at hE
    go_wp2_with fail
    refine hE.mono ?_
    rintro e w5 ⟨r', vs', rfl, hvs', hat', hsg', hb5⟩
    have B5 := B4.trans (hb5.mono B4.size)
    have hat5 := hat.later hb5
    have hsg5 : ∀ j, j < vs.length → Seg w5 (vs.getD j undef) (ck xs j) := fun j hj => (hsg j hj).later hb5
    obtain ⟨g, cap, rfl, _, hg⟩ := hat5
    obtain ⟨g', cap', rfl, _, hg'⟩ := hat'
    clear hE hat hsg hseg hseg4 hs3 hb3 hb4 hb5
    generalize hm : vs.length = m at *
    generalize hm' : vs'.length = m' at *
    have hm1 : Hid (m = cnt xs.length ∧ m' = cnt (xs.length + 1)) := ⟨hvs, hvs'⟩
    clear hvs hvs' hm hm'
    generalize hn0 : xs.length = n at *
    have HN : Hid (xs.length = n) := hn0
    clear hn0
    have Q1 : Hid (m' = (n + 253) / 253) := by show _ = _; have := hm1.out.2; unfold cnt at this; rw [if_neg (by omega)] at this; omega
    have q1 : ((m' : Int) != ((n : Int) + 253) / 253) = false := by have := Q1.out; simp; omega
    by_cases hA : 0 < n ∧ n % 253 = 0
    · obtain ⟨hA0, hA1⟩ := hA
      have Q2 : Hid (253 * m = n ∧ m' = m + 1) := by
        have := Q1.out; have := hm1.out.1; unfold cnt at this; rw [if_neg (by omega)] at this
        exact ⟨by omega, by omega⟩
      have q2 : (0 : Int) < (n : Int) := by omega
      have q3 : ((n : Int) % 253 == 0) = true := by simp; omega
      have q4 : ((m : Int) + 1 != (m' : Int)) = false := by have := Q2.out; simp; omega
      have hmb : m ≤ 5000 := by have := Q2.out; omega
      have hmb' : m' ≤ 5001 := by have := Q2.out; omega
      have hmm : m < m' := by have := Q2.out; omega
      have Hg : Hid (∀ j, j < m → w5.cell? ⟨g, j * 2, none⟩ = some (.int .u8 79) ∧ w5.cell? ⟨g, j * 2 + 1, none⟩ = some (vs.getD j undef)) := hg
      have Hg' : Hid (∀ j, j < m' → w5.cell? ⟨g', j * 2, none⟩ = some (.int .u8 79) ∧ w5.cell? ⟨g', j * 2 + 1, none⟩ = some (vs'.getD j undef)) := hg'
      clear hg hg'
      go_wp2_with fail
      go_loopw [10] (fun i wr => ∃ k : Nat, k ≤ m ∧ i = .int .i64 k ∧ Below w5.heap.size w5 wr) (fun i _ => m - (intOf i).toNat)
      case atStart => exact ⟨0, by omega, rfl, Below.refl _ _⟩
      case round =>
        obtain ⟨k, hk, rfl, hbr⟩ := hrel
        by_cases hlt : k < m
        · have hki : (k : Int) < (m : Int) := by omega
          have hki' : (k : Int) < (m' : Int) := by omega
          obtain ⟨e1, e2⟩ := Hg.out k hlt
          obtain ⟨f1, f2⟩ := Hg'.out k (by omega)
          have e1 := cell_later hbr e1
          have e2 := cell_later hbr e2
          have f1 := cell_later hbr f1
          have f2 := cell_later hbr f2
          have G1 : Hid (Seg wr (vs'.getD k undef) (ck xs k)) := by
            show Seg _ _ _
            have := (hsg' k (by omega)).later hbr
            rwa [ck_snoc xs x k (by have := Q2.out; have := HN.out; omega)] at this
          have G2 : Hid (Seg wr (vs.getD k undef) (ck xs k)) := (hsg5 k hlt).later hbr
          generalize vs'.getD k undef = y1 at *
          generalize vs.getD k undef = y2 at *
          go_upto_region 21 with fail
          go_region_with (first | (go_at_call 9; refine (same_any y1 y2 (ck xs k) (by simp [ck]; omega) _ (G1.out.later (Below.refl _ _).drew) (G2.out.later (Below.refl _ _).drew)).mono ?_; rintro e w6 ⟨rfl, hb6⟩))
          all_goals
            have hbn : Below w5.heap.size w5 w6 := below_next hbr hb6
            go_wp2_with fail
            exact ⟨⟨k + 1, by omega, by go_num, hbn⟩, by simp [intOf]; omega⟩
        · have hkm : k = m := by omega
          obtain ⟨f1, f2⟩ := Hg'.out (m' - 1) (by omega)
          have f1 := cell_later hbr f1
          have f2 := cell_later hbr f2
          have HS : Hid (Seg wr (vs'.getD (m' - 1) undef) [x]) := by
            show Seg _ _ _
            have := (hsg' (m' - 1) (by omega)).later hbr
            have e : ck (xs ++ [x]) (m' - 1) = [x] := by
              have := Q2.out; have := HN.out
              unfold ck
              rw [List.drop_append, List.drop_of_length_le (by omega), show 253 * (m' - 1) - xs.length = 0 by omega]
              simp
            rwa [e] at this
          rcases HS.out with ⟨h, _⟩ | ⟨b7, o7, c7, e7, hc7⟩
          · cases h
          have hc7 : wr.cell? ⟨b7, o7, none⟩ = some (.int .u8 x) := by simpa using hc7 0 (by simp)
          have hbl : b7 < wr.heap.size := World.block_lt_of_cell? _ _ hc7
          rw [e7] at f2
          have f2 : wr.cell? ⟨g', (m' - 1) * 2 + 1, none⟩ = some (.slice (some ⟨b7, o7, none⟩) 1 c7) := f2
          clear e7
          have hfin : Below w'.heap.size w' wr := B5.trans (hbr.mono B5.size)
          go_wp2_with fail
          go_ret
          exact ⟨rfl, hfin.alloc hfin.size _⟩
    · have Q2 : Hid (m' = m ∧ 253 * (m - 1) ≤ n ∧ n < 253 * m ∧ 0 < m) := by
        have := Q1.out; have := hm1.out.1; unfold cnt at this
        by_cases h0 : n = 0
        · rw [if_pos h0] at this; exact ⟨by omega, by omega, by omega, by omega⟩
        · rw [if_neg h0] at this; exact ⟨by omega, by omega, by omega, by omega⟩
      have hmm := Q2.out.1
      subst hmm
      have q4 : ((m' : Int) != (m' : Int)) = false := by simp
      have q5 : ((m' : Int) == 0) = false := by have := Q2.out; simp; omega
      have hmb : m' ≤ 5000 := by have := Q2.out; omega
      have hm0 : 0 < m' := by have := Q2.out; omega
      have Hg : Hid (∀ j, j < m' → w5.cell? ⟨g, j * 2, none⟩ = some (.int .u8 79) ∧ w5.cell? ⟨g, j * 2 + 1, none⟩ = some (vs.getD j undef)) := hg
      have Hg' : Hid (∀ j, j < m' → w5.cell? ⟨g', j * 2, none⟩ = some (.int .u8 79) ∧ w5.cell? ⟨g', j * 2 + 1, none⟩ = some (vs'.getD j undef)) := hg'
      clear hg hg'
      have q2 : (0 < n ∧ ((n : Int) % 253 == 0) = false) ∨ ¬ (0 : Int) < (n : Int) := by
        by_cases h0 : 0 < n
        · left; refine ⟨h0, ?_⟩; simp; omega
        · right; omega
      clear hA
      go_upto_region 15 with fail
      go_cut [54] (fun t wx => t = .bool false ∧ wx = w5)
      case first =>
        rcases q2 with ⟨q2, q3⟩ | q2
        · have q2' : (0 : Int) < (n : Int) := by omega
          go_wp2_with fail
          go_meet
          exact ⟨rfl, rfl⟩
        · go_wp2_with fail
          go_meet
          exact ⟨rfl, rfl⟩
      case rest =>
      obtain ⟨rfl, rfl⟩ := hcut
      clear q2
      go_wp2_with fail
      go_loopw [12] (fun i wr => ∃ k : Nat, k ≤ m' - 1 ∧ i = .int .i64 k ∧ Below wc.heap.size wc wr) (fun i _ => m' - (intOf i).toNat)
      case atStart => exact ⟨0, by omega, rfl, Below.refl _ _⟩
      case round =>
        obtain ⟨k, hk, rfl, hbr⟩ := hrel
        by_cases hlt : k < m' - 1
        · have hki : (k : Int) < (m' : Int) := by omega
          have hki2 : (k : Int) < (m' : Int) - 1 := by omega
          obtain ⟨e1, e2⟩ := Hg.out k (by omega)
          obtain ⟨f1, f2⟩ := Hg'.out k (by omega)
          have e1 := cell_later hbr e1
          have e2 := cell_later hbr e2
          have f1 := cell_later hbr f1
          have f2 := cell_later hbr f2
          have G1 : Hid (Seg wr (vs'.getD k undef) (ck xs k)) := by
            show Seg _ _ _
            have := (hsg' k (by omega)).later hbr
            rwa [ck_snoc xs x k (by have := Q2.out; have := HN.out; omega)] at this
          have G2 : Hid (Seg wr (vs.getD k undef) (ck xs k)) := (hsg5 k (by omega)).later hbr
          generalize vs'.getD k undef = y1 at *
          generalize vs.getD k undef = y2 at *
          go_upto_region 30 with fail
          go_region_with (first | (go_at_call 9; refine (same_any y1 y2 (ck xs k) (by simp [ck]; omega) _ (G1.out.later (Below.refl _ _).drew) (G2.out.later (Below.refl _ _).drew)).mono ?_; rintro e w6 ⟨rfl, hb6⟩))
          all_goals
            have hbn : Below wc.heap.size wc w6 := below_next hbr hb6
            go_wp2_with fail
            exact ⟨⟨k + 1, by omega, by go_num, hbn⟩, by simp [intOf]; omega⟩
        · have hkm : ¬ (k : Int) < (m' : Int) - 1 := by omega
          obtain ⟨e1, e2⟩ := Hg.out (m' - 1) (by omega)
          obtain ⟨f1, f2⟩ := Hg'.out (m' - 1) (by omega)
          have e1 := cell_later hbr e1
          have e2 := cell_later hbr e2
          have f1 := cell_later hbr f1
          have f2 := cell_later hbr f2
          have hck : ck (xs ++ [x]) (m' - 1) = ck xs (m' - 1) ++ [x] := by
            have := Q2.out; have := HN.out
            unfold ck
            rw [List.drop_append, List.take_append, List.length_drop, show 253 * (m' - 1) - xs.length = 0 by omega]
            congr 1
            rw [List.take_of_length_le]
            · rfl
            · simp; omega
          have hlc : (ck xs (m' - 1)).length ≤ 252 := by
            have := Q2.out; have := HN.out
            simp [ck]; omega
          have HS' := (hsg' (m' - 1) (by omega)).later hbr
          have HS := (hsg5 (m' - 1) (by omega)).later hbr
          rw [hck] at HS'
          clear hck
          generalize ck xs (m' - 1) = Lx at *
          generalize vs'.getD (m' - 1) undef = y1 at *
          generalize vs.getD (m' - 1) undef = y2 at *
          obtain ⟨a1, c1, ey1, hy1⟩ := HS'.shape
          obtain ⟨b1, o1, rfl, hc1⟩ := hy1 (by simp)
          obtain ⟨a2, c2, ey2, hy2⟩ := HS.shape
          rw [ey1, show (Lx ++ [x]).length = Lx.length + 1 by simp] at f2
          rw [ey2] at e2
          have hlast : wr.cell? ⟨b1, o1 + Lx.length, none⟩ = some (.int .u8 x) := by simpa [List.getD] using hc1 Lx.length (by simp)
          have hbl : b1 < wr.heap.size := World.block_lt_of_cell? _ _ hlast
          have HC1 : Hid (∀ i, i < Lx.length → wr.cell? ⟨b1, o1 + i, none⟩ = some (.int .u8 (Lx.getD i 0))) := fun i hi => by
            have := hc1 i (by simp; omega)
            rwa [show (Lx ++ [x]).getD i 0 = Lx.getD i 0 by simp [List.getD, List.getElem?_append_left hi]] at this
          have HC2 : Hid (0 < Lx.length → ∃ b o, a2 = some ⟨b, o, none⟩ ∧ ∀ i, i < Lx.length → wr.cell? ⟨b, o + i, none⟩ = some (.int .u8 (Lx.getD i 0))) := hy2
          have hgl : g < wr.heap.size := World.block_lt_of_cell? _ _ e1
          have hgl' : g' < wr.heap.size := World.block_lt_of_cell? _ _ f1
          have hfin : Below w'.heap.size w' wr := B5.trans (hbr.mono B5.size)
          have q7 : (((Lx.length : Int) + 1) != ((Lx.length : Int) + 1)) = false := by simp
          clear HS HS' hy1 hy2 hc1 ey1 ey2 Hg Hg' hsg' hsg5 Q1 Q2 hm1
          generalize hLn : Lx.length = ln at *
          have HLn : Hid (Lx.length = ln) := hLn
          clear hLn
          go_wp2_with fail
          go_loopw [15] (fun i wq => ∃ k : Nat, k ≤ ln ∧ i = .int .i64 k ∧ ∃ q, wq = ((wr.alloc (.cells #[.int .u8 79, .slice a2 ln c2] 31)).alloc (.cells #[.int .u8 79, .slice (some ⟨b1, o1, none⟩) (ln + 1) c1] 31)).drewN q) (fun i _ => ln - (intOf i).toNat)
          case atStart => exact ⟨0, by omega, rfl, 0, rfl⟩
          case round =>
            obtain ⟨t, ht, rfl, q, rfl⟩ := hrel
            by_cases hlt2 : t < ln
            · obtain ⟨b2, o2, ea2, hcb⟩ := HC2.out (by have := HLn.out; omega)
              have x1 := HC1.out t (by have := HLn.out; omega)
              have x2 := hcb t (by have := HLn.out; omega)
              have hb2l : b2 < wr.heap.size := World.block_lt_of_cell? _ _ x2
              have t1 : (t : Int) < (ln : Int) := by omega
              have t2 : (t : Int) < (ln : Int) + 1 := by omega
              clear hcb
              subst ea2
              go_wp2_with fail
              go_quiet (fail)
              go_wp2_with fail
              exact ⟨⟨t + 1, by omega, by go_num, q + nq, rfl⟩, by simp [intOf]; omega⟩
            · go_wp2_with fail
              go_ret
              exact ⟨rfl, below_drewN ((hfin.alloc hfin.size _).alloc (by have := hfin.size; simp; omega) _) _⟩
  · have HD : Hid (decide (n ≤ 1048576) = false) := decide_eq_false hn
    go_enter Try.func4, Try.ntmps4
    go_wp2_with fail
    refine (zzb_app _ _ _ _ hnm _).mono ?_
    rintro e w' ⟨rfl, rfl⟩
    rw [HD.out]
    go_wp2_with fail
    go_ret
    exact ⟨rfl, Below.refl _ _⟩
end Go.Proofs.Qxb6631253a
