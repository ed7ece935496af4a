import Derived.Test.Qxb6630397aDat
import Derived.Lib.SliceRun
namespace Go.Proofs.Qxb6630397a
open Go.RowKit

/-- two settings are one -/
def sEq (a b : Stg) : Bool := decide (a.f = b.f ∧ a.l = b.l ∧ a.e = b.e ∧ a.g = b.g ∧ a.o = b.o ∧ a.v = b.v ∧ a.h = b.h)
theorem sEq_iff (a b : Stg) : sEq a b = true ↔ a = b := by
  unfold sEq
  rw [decide_eq_true_eq]
  constructor
  · rintro ⟨h1, h2, h3, h4, h5, h6, h7⟩
    obtain ⟨_, _, _, _, _, _, _⟩ := a
    obtain ⟨_, _, _, _, _, _, _⟩ := b
    simp_all
  · rintro rfl; exact ⟨rfl, rfl, rfl, rfl, rfl, rfl, rfl⟩

theorem info27 : (Try.prog.info? 27).map (fun i => (i.zero, i.size, i.bytes)) = some (some (.agg #[.string ByteArray.empty, .int .i64 0, .int .i64 0, .string ByteArray.empty, .string ByteArray.empty, .string ByteArray.empty, .bool false]), 7, 88) := by kernel_rfl

theorem eql27 (a b : Stg) (w : World) : (binOp .eql 27 (sv a) (sv b)).run Try.prog w = .ok (.bool (sEq a b)) w := by
  go_simp
  simp only [tl_eq]
  unfold sEq
  by_cases h1 : a.f = b.f
  · by_cases h2 : a.l = b.l
    · by_cases h3 : a.e = b.e
      · by_cases h4 : a.g = b.g
        · by_cases h5 : a.o = b.o
          · by_cases h6 : a.v = b.v
            · by_cases h7 : a.h = b.h <;> simp [h1, h2, h3, h4, h5, h6, h7]
            · simp [h1, h2, h3, h4, h5, h6]
          · simp [h1, h2, h3, h4, h5]
        · simp [h1, h2, h3, h4]
      · simp [h1, h2, h3]
    · simp [h1, h2]
  · simp [h1]

/-- the cells of settings -/
def cellsS : List Stg → List Value
  | [] => []
  | s :: l => .string s.f :: .int .i64 s.l :: .int .i64 s.e :: .string s.g :: .string s.o :: .string s.v :: .bool s.h :: cellsS l
theorem cellsS_append (l r : List Stg) : cellsS (l ++ r) = cellsS l ++ cellsS r := by
  induction l with
  | nil => rfl
  | cons s l ih => simp [cellsS, ih]
theorem cellsS_length (l : List Stg) : (cellsS l).length = l.length * 7 := by
  induction l with
  | nil => rfl
  | cons s l ih => simp [cellsS, ih]; omega
theorem cellsS_get : ∀ (l : List Stg) (j : Nat) (s : Stg), l[j]? = some s →
    (cellsS l)[j * 7]? = some (.string s.f) ∧ (cellsS l)[j * 7 + 1]? = some (.int .i64 s.l) ∧ (cellsS l)[j * 7 + 2]? = some (.int .i64 s.e) ∧ (cellsS l)[j * 7 + 3]? = some (.string s.g) ∧
    (cellsS l)[j * 7 + 4]? = some (.string s.o) ∧ (cellsS l)[j * 7 + 5]? = some (.string s.v) ∧ (cellsS l)[j * 7 + 6]? = some (.bool s.h)
  | [], j, s, h => by simp at h
  | x :: l, 0, s, h => by simp at h; subst h; simp [cellsS]
  | x :: l, j + 1, s, h => by
    have ih := cellsS_get l j s (by simpa using h)
    rw [show (j + 1) * 7 = j * 7 + 6 + 1 by omega]
    unfold cellsS
    simpa [show ∀ i, j * 7 + 6 + 1 + i = (j * 7 + i) + 7 from fun i => by omega] using ih

theorem srow_of_owns {w : World} {B : Nat} {v : Value} {ss : List Stg} (h : w.ownsRow B 27 7 v ss.length (cellsS ss)) : ∃ a c, v = .slice a ss.length c ∧ (a = none → c = 0) ∧ SRow w a ss := by
  rcases h.2 with ⟨rfl, h0⟩ | ⟨g, cap, cur, hv, hB, hg, _⟩
  · exact ⟨none, 0, by rw [h0], fun _ => rfl, fun h' => by omega⟩
  · refine ⟨_, cap, hv, (fun h => nomatch h), fun _ => ⟨g, 0, rfl, fun j s hj => ?_⟩⟩
    have hc := h.cells (g := g) (by rw [hv]; rfl)
    have ha : ∀ i : Nat, (⟨g, 0, none⟩ : Addr).add i = ⟨g, i, none⟩ := fun i => by unfold Addr.add; split <;> simp_all
    obtain ⟨c0, c1, c2, c3, c4, c5, c6⟩ := cellsS_get ss j s hj
    have c0 := hc _ _ c0
    have c1 := hc _ _ c1
    have c2 := hc _ _ c2
    have c3 := hc _ _ c3
    have c4 := hc _ _ c4
    have c5 := hc _ _ c5
    have c6 := hc _ _ c6
    rw [ha] at c0 c1 c2 c3 c4 c5 c6
    rw [Nat.zero_add]
    exact ⟨c0, c1, c2, c3, c4, c5, c6⟩

/-- it returns a slice that holds these settings -/
def LO (ss : List Stg) (e : Ending) (w' : World) : Prop := ∃ a c, e = .returned (.slice a ss.length c) ∧ (a = none → c = 0) ∧ SRow w' a ss

/-- a list with every copy of one setting left out, where that is asked -/
def filt (drop : Bool) (x : Stg) (ss : List Stg) : List Stg := ss.filter fun s => !(drop && sEq s x)

theorem filt_snoc (drop : Bool) (x s : Stg) (l : List Stg) : filt drop x (l ++ [s]) = filt drop x l ++ (if (drop && sEq s x) = true then [] else [s]) := by
  unfold filt
  rw [List.filter_append]
  congr 1
  cases drop <;> cases hsx : sEq s x <;> simp [hsx]

/-- a setting's own block -/
abbrev obM (s : Stg) : Obj := .cells #[.string s.f, .int .i64 s.l, .int .i64 s.e, .string s.g, .string s.o, .string s.v, .bool s.h] 27

theorem news7 (w : World) (s : Stg) : ∀ j u, (cellsS [s])[j]? = some u → (w.alloc (obM s)).cell? ((⟨w.heap.size, 0, none⟩ : Addr).add j) = some u := by
  intro j u h
  have ha : ∀ i : Nat, (⟨w.heap.size, 0, none⟩ : Addr).add i = ⟨w.heap.size, i, none⟩ := fun i => by unfold Addr.add; split <;> simp_all
  rw [ha]
  match j with
  | 0 => simp [cellsS] at h; subst h; go_simp
  | 1 => simp [cellsS] at h; subst h; go_simp
  | 2 => simp [cellsS] at h; subst h; go_simp
  | 3 => simp [cellsS] at h; subst h; go_simp
  | 4 => simp [cellsS] at h; subst h; go_simp
  | 5 => simp [cellsS] at h; subst h; go_simp
  | 6 => simp [cellsS] at h; subst h; go_simp
  | j + 7 => simp [cellsS] at h
theorem one7 (s : Stg) : ∀ u ∈ cellsS [s], u.oneCell' = true := by
  intro u hu; simp [cellsS] at hu; rcases hu with rfl | rfl | rfl | rfl | rfl | rfl | rfl <;> rfl

theorem news_at (w : World) (s : Stg) : ∀ j u, (cellsS [s])[j]? = some u → ((w.alloc (obM s)).alloc (obM s)).cell? ((⟨w.heap.size + 1, 0, none⟩ : Addr).add j) = some u := by
  have := news7 (w.alloc (obM s)) s
  simpa using this
theorem owns_below {w w' : World} {B : Nat} {v : Value} {n : Nat} {xs : List Value} (h : w.ownsRow B 27 7 v n xs) (hb : Below w.heap.size w w') : w'.ownsRow B 27 7 v n xs :=
  h.kept (row := none) ⟨hb.os, hb.tape, hb.output, hb.size, fun k hk _ => hb.block k hk⟩ (by cases v.ownBlock <;> simp)

set_option maxRecDepth 20000 in
set_option maxHeartbeats 2000000 in
theorem list_any (a : Option Addr) (c : Nat) (ss : List Stg) (drop : Bool) (x : Stg) (hl : ss.length ≤ 4096) (w : World) (hs : SRow w a ss) :
    Calls Try.prog 18 #[.slice a ss.length c, .bool drop, sv x] w fun e w' => LO (filt drop x ss) e w' ∧ Below w.heap.size w w' := by
  have he := fun W => Lib.run_eql_slice_nil (P := Try.prog) W 50 25 a ss.length c 0 0 Try.underlying50
  have hal : Below w.heap.size w (w.alloc (obM x)) := (Below.refl _ _).alloc (Nat.le_refl _) _
  by_cases ha : a = none
  · subst ha
    have h0 : ss = [] := by
      cases ss with
      | nil => rfl
      | cons s l => obtain ⟨b, o, h, _⟩ := hs (by simp); cases h
    subst h0
    clear he
    have he := fun W => Lib.run_eql_slice_nil (P := Try.prog) W 50 25 none 0 c 0 0 Try.underlying50
    go_enter Try.func18, Try.ntmps18
    go_wp2_with fail
    go_ret
    exact ⟨⟨none, 0, rfl, fun _ => rfl, fun h => by simp [filt] at h⟩, hal⟩
  obtain ⟨i0, hi, hz0, hz1, hz2⟩ := info_parts info27
  obtain ⟨w1, hmk, hown, hgr⟩ := run_make_own (P := Try.prog) (w.alloc (obM x)) (w.heap.size + 1) 33 27 i0 _ 7 Try.underlying33 hi hz0 hz1 .i64 .i64 ss.length (by rw [hz2]; omega) (by unfold maxLen; omega) (by simp)
  have hb1 : Below (w.heap.size + 1) (w.alloc (obM x)) w1 := (Below.refl _ _).grown hgr (by simp) (fun k hk => by cases hk)
  have hnn : a.isNone = false := by cases a <;> simp_all
  have HS : Hid (SRow w a ss) := hs
  have hq := eql27
  clear hs hgr
  go_enter Try.func18, Try.ntmps18
  go_wp2_with fail
  have HB1 : Hid (Below (w.heap.size + 1) (w.alloc (obM x)) w1) := hb1
  have Hown : Hid (w1.ownsRow (w.heap.size + 1) 27 7 (.slice (some ⟨(w.alloc (obM x)).heap.size, 0, none⟩) 0 ss.length) 0 []) := hown
  clear hb1 hown hmk
  generalize hn : ss.length = n at *
  have HN : Hid (ss.length = n) := hn
  clear hn
  go_loopw [7, 8] (fun v j wr => ∃ (k : Nat), k ≤ n ∧ j = .int .i64 k ∧ wr.ownsRow (w.heap.size + 1) 27 7 v (filt drop x (ss.take k)).length (cellsS (filt drop x (ss.take k))) ∧ Below (w.heap.size + 1) (w.alloc (obM x)) wr) (fun _ j _ => n - (intOf j).toNat)
  case atStart => exact ⟨0, by omega, rfl, by simpa [filt, cellsS] using Hown.out, HB1.out⟩
  case round =>
    obtain ⟨k, hk, rfl, hown, hb⟩ := hrel
    have hz := hb.size
    have hbw : Below w.heap.size w wr := hal.trans (hb.mono (by omega))
    by_cases hlt : k < n
    · have hki : (k : Int) < (n : Int) := by omega
      obtain ⟨b, o, rfl, hE⟩ := HS.out (by have := HN.out; omega)
      obtain ⟨s, hsk⟩ : ∃ s, ss[k]? = some s := ⟨ss[k]'(by have := HN.out; omega), by simp⟩
      obtain ⟨x0, x1, x2, x3, x4, x5, x6⟩ := (hE k s hsk).later hbw
      have HT : Hid (filt drop x (ss.take (k + 1)) = filt drop x (ss.take k) ++ (if (drop && sEq s x) = true then [] else [s])) := by
        show _ = _
        rw [← filt_snoc, List.take_add_one, hsk]; rfl
      have hfl : (filt drop x (ss.take k)).length ≤ n := Nat.le_trans (List.length_filter_le _ _) (by rw [List.length_take]; omega)
      clear hE hsk
      go_wp2_with fail
      refine (setting_any s _).mono ?_
      rintro e w2 ⟨rfl, hb2⟩
      have hown2 := owns_below hown hb2
      have hz2' : wr.heap.size ≤ w2.heap.size := hb2.size
      have hb2' : Below (w.heap.size + 1) (w.alloc (obM x)) w2 := hb.trans (hb2.mono (by simpa using hz))
      have hb2a : Below (w.heap.size + 1) (w.alloc (obM x)) ((w2.alloc (obM s)).alloc (obM s)) := (hb2'.alloc (by simp at hz; omega) _).alloc (by simp at hz ⊢; omega) _
      have hzz : w.heap.size + 1 ≤ w2.heap.size := by simp at hz; omega
      have hxl : w.heap.size < w2.heap.size := by omega
      obtain ⟨y0, y1, y2, y3, y4, y5, y6⟩ : StgAt w2 w.heap.size 0 x := StgAt.later (w := w.alloc (obM x)) (by unfold StgAt; go_simp) (by simpa using hb2')
      cases hd : drop
      · subst hd
        have hT : filt false x (ss.take (k + 1)) = filt false x (ss.take k) ++ [s] := HT.out
        have HT2 : Hid (filt false x (ss.take (k + 1)) = filt false x (ss.take k) ++ [s]) := hT
        clear hT HT
        generalize hfc : filt false x (ss.take k) = F at *
        clear hfc
        go_wp2_with (at_builtin; refine wpList_append_own _ rfl _ _ 33 rfl (w.heap.size + 1) 27 i0 _ 7 88 Try.underlying33 hi hz0 hz1 hz2 rfl (by decide) _ _ _ rfl ((hown2.alloc _).alloc _) ⟨w2.heap.size + 1, 0, none⟩ 1 1 (cellsS [s]) rfl rfl (news_at w2 s) (one7 s) (by unfold maxLen; omega) (by omega) (by simp; omega) ?_; intro v' w3 hown3 hgrow hnil)
        have hbn : Below (w.heap.size + 1) (w.alloc (obM x)) w3 := hb2a.grown hgrow (by simp; omega) (fun q hq => (hown2.lt q hq).1)
        refine ⟨⟨k + 1, by omega, by go_num, ?_, hbn⟩, by simp [intOf]; omega⟩
        rw [HT2.out, cellsS_append, List.length_append]
        exact hown3
      · subst hd
        by_cases hsx : sEq s x = true
        · have HT2 : Hid (filt true x (ss.take (k + 1)) = filt true x (ss.take k)) := by
            show _ = _
            rw [HT.out]; simp [hsx]
          clear HT
          go_wp2_with fail
          refine ⟨⟨k + 1, by omega, by go_num, ?_, hb2'.alloc (by omega) _⟩, by simp [intOf]; omega⟩
          rw [HT2.out]
          exact hown2.alloc _
        · have hsx' : sEq s x = false := by simpa using hsx
          have HT2 : Hid (filt true x (ss.take (k + 1)) = filt true x (ss.take k) ++ [s]) := by
            show _ = _
            rw [HT.out]; simp [hsx']
          clear HT hsx
          generalize hfc : filt true x (ss.take k) = F at *
          clear hfc
          go_wp2_with (at_builtin; refine wpList_append_own _ rfl _ _ 33 rfl (w.heap.size + 1) 27 i0 _ 7 88 Try.underlying33 hi hz0 hz1 hz2 rfl (by decide) _ _ _ rfl ((hown2.alloc _).alloc _) ⟨w2.heap.size + 1, 0, none⟩ 1 1 (cellsS [s]) rfl rfl (news_at w2 s) (one7 s) (by unfold maxLen; omega) (by omega) (by simp; omega) ?_; intro v' w3 hown3 hgrow hnil)
          have hbn : Below (w.heap.size + 1) (w.alloc (obM x)) w3 := hb2a.grown hgrow (by simp; omega) (fun q hq => (hown2.lt q hq).1)
          refine ⟨⟨k + 1, by omega, by go_num, ?_, hbn⟩, by simp [intOf]; omega⟩
          rw [HT2.out, cellsS_append, List.length_append]
          exact hown3
    · have hlt0 : ¬ (k : Int) < (n : Int) := by omega
      rw [List.take_of_length_le (by have := HN.out; omega)] at hown
      obtain ⟨a', c', rfl, hcn, hrow⟩ := srow_of_owns hown
      have HCN : Hid (a' = none → c' = 0) := hcn
      have HR : Hid (SRow wr a' (filt drop x ss)) := hrow
      clear hrow hown hcn
      go_wp2_with fail
      go_ret
      exact ⟨⟨a', c', rfl, HCN.out, HR.out⟩, hbw⟩

end Go.Proofs.Qxb6630397a
