import Derived.Test.Qxb6630397aCfg
import Derived.Laws.AppendOwnNone
namespace Go.Proofs.Qxb6630397a
open Go.RowKit
open Go.ChangeMaps (setBlock)

/-- all settings of a row, as cells -/
theorem srow_cells {w : World} {b o : Nat} {ss : List Stg} (h : ∀ j s, ss[j]? = some s → StgAt w b (o + j * 7) s) :
    ∀ j u, (cellsS ss)[j]? = some u → w.cell? ((⟨b, o, none⟩ : Addr).add j) = some u := by
  intro j u hu
  have ha : ∀ i : Nat, (⟨b, o, none⟩ : Addr).add i = ⟨b, o + i, none⟩ := fun i => by unfold Addr.add; split <;> simp_all
  rw [ha]
  have hj : j < ss.length * 7 := by
    have := (List.getElem?_eq_some_iff.1 hu).1
    rwa [cellsS_length] at this
  obtain ⟨q, r, hq, hr, hqr⟩ : ∃ q r, q < ss.length ∧ r < 7 ∧ j = q * 7 + r := ⟨j / 7, j % 7, by omega, by omega, by omega⟩
  obtain ⟨s, hs⟩ : ∃ s, ss[q]? = some s := ⟨ss[q], by simp⟩
  obtain ⟨x0, x1, x2, x3, x4, x5, x6⟩ := h q s hs
  obtain ⟨c0, c1, c2, c3, c4, c5, c6⟩ := cellsS_get ss q s hs
  subst hqr
  match r, hr with
  | 0, _ => rw [Nat.add_zero] at hu ⊢; rw [c0] at hu; cases hu; exact x0
  | 1, _ => rw [c1] at hu; cases hu; exact x1
  | 2, _ => rw [c2] at hu; cases hu; exact x2
  | 3, _ => rw [c3] at hu; cases hu; exact x3
  | 4, _ => rw [c4] at hu; cases hu; exact x4
  | 5, _ => rw [c5] at hu; cases hu; exact x5
  | 6, _ => rw [c6] at hu; cases hu; exact x6
theorem ones : ∀ (ss : List Stg), ∀ u ∈ cellsS ss, u.oneCell' = true
  | [], u, h => by simp [cellsS] at h
  | s :: l, u, h => by
    simp only [cellsS, List.mem_cons] at h
    rcases h with rfl | rfl | rfl | rfl | rfl | rfl | rfl | h
    iterate 7 rfl
    exact ones l u h

/-- what zzPut turns -/
structure PutTurn (w w' : World) (B : Nat) : Prop where
  cells : CellsKept w w'
  size : w.heap.size ≤ w'.heap.size
  block : ∀ k, k < w.heap.size → k ≠ B → w'.heap[k]? = w.heap[k]?
  below : ∀ N, N ≤ B → N ≤ w.heap.size → Below N w w'
theorem put_turn {w w1 w' : World} {B : Nat} (hb : Below w.heap.size w w1) (ht : MapTurn w1 w' B) : PutTurn w w' B :=
  ⟨fun a v h => ht.cells _ _ (cellsKept_below hb a v h), by rw [ht.size]; exact hb.size,
   fun k hk hne => by rw [ht.grown.block k (by have := hb.size; omega) (by simpa using hne), hb.block k hk],
   fun N h1 h2 => (hb.mono h2).trans (ht.below h1)⟩
theorem TblIs.put {w w' : World} {B B' : Nat} {T : Tbl} (h : TblIs w B T) (ht : PutTurn w w' B') (hne : B ≠ B') : TblIs w' B T := by
  have hlt := h.lt
  obtain ⟨es, clk, l, h1, h2, h3⟩ := h
  refine ⟨es, clk, l, by rw [ht.block B hlt hne]; exact h1, h2, fun G O => ?_⟩
  obtain ⟨a, c, h4, h6, h5⟩ := h3 G O
  exact ⟨a, c, h4, h6, h5.kept ht.cells⟩
theorem GrpIs.put {w w' : World} {B B' : Nat} {f : ByteArray → Bool} (h : GrpIs w B f) (ht : PutTurn w w' B') (hne : B ≠ B') : GrpIs w' B f := by
  have hlt := h.lt
  obtain ⟨es, clk, l, h1, h2, h3⟩ := h
  exact ⟨es, clk, l, by rw [ht.block B hlt hne]; exact h1, h2, h3⟩
theorem Cfg.put {w w' : World} {bc bk bg bs B : Nat} {Tk : Tbl} {f : ByteArray → Bool} {Ts : Tbl} (h : Cfg w bc bk bg bs Tk f Ts) (ht : PutTurn w w' B) (h1 : bk ≠ B) (h2 : bg ≠ B) (h3 : bs ≠ B) : Cfg w' bc bk bg bs Tk f Ts :=
  ⟨ht.cells _ _ h.c3, ht.cells _ _ h.c4, ht.cells _ _ h.c5, h.tk.put ht h1, h.gg.put ht h2, h.ts.put ht h3⟩
theorem Cfg.putK {w w' : World} {bc bk bg bs : Nat} {Tk Tk' : Tbl} {f : ByteArray → Bool} {Ts : Tbl} (h : Cfg w bc bk bg bs Tk f Ts) (ht : PutTurn w w' bk) (h0 : TblIs w' bk Tk') (h2 : bg ≠ bk) (h3 : bs ≠ bk) : Cfg w' bc bk bg bs Tk' f Ts :=
  ⟨ht.cells _ _ h.c3, ht.cells _ _ h.c4, ht.cells _ _ h.c5, h0, h.gg.put ht h2, h.ts.put ht h3⟩
theorem Cfg.putS {w w' : World} {bc bk bg bs : Nat} {Tk Ts' : Tbl} {f : ByteArray → Bool} {Ts : Tbl} (h : Cfg w bc bk bg bs Tk f Ts) (ht : PutTurn w w' bs) (h0 : TblIs w' bs Ts') (h1 : bk ≠ bs) (h2 : bg ≠ bs) : Cfg w' bc bk bg bs Tk f Ts' :=
  ⟨ht.cells _ _ h.c3, ht.cells _ _ h.c4, ht.cells _ _ h.c5, h.tk.put ht h1, h.gg.put ht h2, h0⟩

/-- a key's own block -/
abbrev obK (G O : ByteArray) : Obj := .cells #[.string G, .string O] 44
/-- the two blocks laid at the entry -/
abbrev two (w : World) (G O : ByteArray) (x : Stg) : World := (w.alloc (obK G O)).alloc (obM x)

theorem two_below (w : World) (G O : ByteArray) (x : Stg) : Below w.heap.size w (two w G O x) := ((Below.refl _ _).alloc (Nat.le_refl _) _).alloc (by simp) _
abbrev KeyAt (w : World) (b : Nat) (G O : ByteArray) : Prop := w.cell? ⟨b, 0, none⟩ = some (.string G) ∧ w.cell? ⟨b, 1, none⟩ = some (.string O)

set_option maxRecDepth 20000 in
set_option maxHeartbeats 4000000 in
theorem put_any (B : Nat) (T : Tbl) (G O : ByteArray) (x : Stg) (hT : (T G O).length ≤ 4096) (w : World) (h : TblIs w B T) :
    Calls Try.prog 9 #[.map (some B), kv G O, sv x] w fun e w' => e = .returned (.tuple #[]) ∧ TblIs w' B (updT T G O (T G O ++ [x])) ∧ PutTurn w w' B := by
  have hlt := h.lt
  obtain ⟨a, c, hlk, hn, hrow⟩ := tbl_lookup (h.later (two_below w G O x)) G O
  have HT : Hid (TblIs w B T) := h
  obtain ⟨i0, hi, hz0, hz1, hz2⟩ := info_parts info27
  obtain ⟨w1, hmk, hown, hgr⟩ := run_make_own (P := Try.prog) (two w G O x) (w.heap.size + 2) 33 27 i0 _ 7 Try.underlying33 hi hz0 hz1 .i64 .i64 ((T G O).length + 1) (by rw [hz2]; omega) (by unfold maxLen; omega) (by simp)
  have hb1 : Below (w.heap.size + 2) (two w G O x) w1 := (Below.refl _ _).grown hgr (by simp) (fun k hk => by cases hk)
  have hmk' : (Instr.makeSlice 33 (.int .i64 0) (.int .i64 ((T G O).length + 1 : Int))).run Try.prog (two w G O x) = .ok (.slice (some ⟨(two w G O x).heap.size, 0, none⟩) 0 ((T G O).length + 1)) w1 := by
    simpa using hmk
  clear h hmk hgr
  have HN : Hid (a = none → c = 0) := hn
  have HR : Hid (SRow (two w G O x) a (T G O)) := hrow
  clear hn hrow
  generalize hL : T G O = L at *
  clear hL
  obtain ⟨y0, y1, y2, y3, y4, y5, y6⟩ : StgAt w1 (w.heap.size + 1) 0 x := StgAt.later (w := two w G O x) (by unfold StgAt; go_simp) (by simpa using hb1)
  have hs2 : (two w G O x).heap.size = w.heap.size + 1 + 1 := by
    show ((w.heap.push _).push _).size = _
    rw [Array.size_push, Array.size_push]
  rw [hs2] at hown hmk'
  have hz := hb1.size
  rw [hs2] at hz
  cases a with
  | none =>
    obtain rfl : c = 0 := HN.out rfl
    have hL0 : L = [] := by
      cases L with
      | nil => rfl
      | cons s l => obtain ⟨b, o, h, _⟩ := HR.out (by simp); cases h
    subst hL0
    simp only [List.length_nil, Nat.zero_add, Int.natCast_zero, Int.zero_add] at hown hmk' hlk
    go_enter Try.func9, Try.ntmps9
    go_wp2_with (at_builtin; first
      | refine wpList_append_own_none rfl _ _ 33 rfl (w.heap.size + 2) 27 i0 7 Try.underlying33 hi _ _ _ rfl hown rfl ?_
      | (refine wpList_append_own _ rfl _ _ 33 rfl (w.heap.size + 2) 27 i0 _ 7 88 Try.underlying33 hi hz0 hz1 hz2 rfl (by decide) _ _ _ rfl (hown.alloc _) ⟨w1.heap.size, 0, none⟩ 1 1 (cellsS [x]) rfl rfl (news7 w1 x) (one7 x) (by unfold maxLen; omega) (by omega) (by simp; omega) ?_; intro v3 w3 hown3 hgrow3 hnil3
         obtain ⟨a3, c3, rfl, hn3, hr3⟩ := srow_of_owns (ss := [x]) hown3
         have hb3 : Below (w.heap.size + 2) (two w G O x) w3 := (hb1.alloc (by omega) _).grown hgrow3 (by simp; omega) (fun q hq => (hown.lt q hq).1)
         have hb4 : Below w.heap.size w w3 := (two_below w G O x).trans (hb3.mono (by omega))
         obtain ⟨k0, k1⟩ : KeyAt w3 w.heap.size G O := ⟨by rw [hb3.cell (by simp)]; go_simp, by rw [hb3.cell (by simp)]; go_simp⟩
         obtain ⟨w5, hup, htb5, hup5⟩ := tbl_update (HT.out.later hb4) G O a3 c3 [x] hn3 hr3
         simp only [List.length_cons, List.length_nil, Nat.zero_add] at hup
         have HB5 : Hid (TblIs w5 B (updT T G O [x])) := htb5
         have HP5 : Hid (PutTurn w w5 B) := put_turn hb4 hup5
         clear hb3 hb4 htb5 hup5 hown3 hgrow3 hnil3 hr3 hn3))
    refine bodyPost_end (results_none rfl _ _ _) rfl ?_
    exact ⟨rfl, HB5.out, HP5.out⟩
  | some ad =>
    have hnews : ∀ j u, (cellsS L)[j]? = some u → w1.cell? (ad.add j) = some u := by
      intro j u hju
      have hL0 : 0 < L.length := by
        have := (List.getElem?_eq_some_iff.1 hju).1
        rw [cellsS_length] at this
        omega
      obtain ⟨b, o, h, hE⟩ := HR.out hL0
      cases h
      exact srow_cells (fun j s hj => (hE j s hj).later (by simpa using hb1)) j u hju
    go_enter Try.func9, Try.ntmps9
    go_wp2_with (at_builtin; first
      | (refine wpList_append_own _ rfl _ _ 33 rfl (w.heap.size + 2) 27 i0 _ 7 88 Try.underlying33 hi hz0 hz1 hz2 rfl (by decide) _ _ _ rfl hown ad L.length c (cellsS L) rfl (cellsS_length L) hnews (ones L) (by unfold maxLen; omega) (by omega) (by omega) ?_; intro v2 w2 hown2 hgrow2 hnil2
         have hb2 : Below (w.heap.size + 2) (two w G O x) w2 := hb1.grown hgrow2 (by omega) (fun q hq => (hown.lt q hq).1)
         obtain ⟨z0, z1, z2, z3, z4, z5, z6⟩ : StgAt w2 (w.heap.size + 1) 0 x := StgAt.later (w := two w G O x) (by unfold StgAt; go_simp) (by simpa using hb2)
         have hzz2 := hb2.size
         rw [hs2] at hzz2
         clear hgrow2 hnil2)
      | (refine wpList_append_own _ rfl _ _ 33 rfl (w.heap.size + 2) 27 i0 _ 7 88 Try.underlying33 hi hz0 hz1 hz2 rfl (by decide) _ _ _ rfl (hown2.alloc _) ⟨w2.heap.size, 0, none⟩ 1 1 (cellsS [x]) rfl rfl (news7 w2 x) (one7 x) (by unfold maxLen; omega) (by omega) (by simp; omega) ?_; intro v3 w3 hown3 hgrow3 hnil3
         obtain ⟨a3, c3, rfl, hn3, hr3⟩ := srow_of_owns (ss := L ++ [x]) (by rw [cellsS_append, List.length_append]; simpa using hown3)
         have hb3 : Below (w.heap.size + 2) (two w G O x) w3 := (hb2.alloc (by omega) _).grown hgrow3 (by simp; omega) (fun q hq => (hown2.lt q hq).1)
         have hb4 : Below w.heap.size w w3 := (two_below w G O x).trans (hb3.mono (by omega))
         obtain ⟨k0, k1⟩ : KeyAt w3 w.heap.size G O := ⟨by rw [hb3.cell (by simp)]; go_simp, by rw [hb3.cell (by simp)]; go_simp⟩
         obtain ⟨w5, hup, htb5, hup5⟩ := tbl_update (HT.out.later hb4) G O a3 c3 (L ++ [x]) hn3 hr3
         simp only [List.length_append, List.length_cons, List.length_nil, Nat.zero_add] at hup
         have HB5 : Hid (TblIs w5 B (updT T G O (L ++ [x]))) := htb5
         have HP5 : Hid (PutTurn w w5 B) := put_turn hb4 hup5
         clear hb3 hb4 htb5 hup5 hown3 hgrow3 hnil3 hr3 hn3))
    refine bodyPost_end (results_none rfl _ _ _) rfl ?_
    exact ⟨rfl, HB5.out, HP5.out⟩

end Go.Proofs.Qxb6630397a
