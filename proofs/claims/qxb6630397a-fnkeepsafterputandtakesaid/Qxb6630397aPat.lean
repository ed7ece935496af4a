import Derived.Test.Qxb6630397aSit
import Derived.Test.Qxb6630397aByt
namespace Go.Proofs.Qxb6630397a
open Go.RowKit

set_option maxRecDepth 50000 in
set_option maxHeartbeats 16000000 in
theorem putAndTake_any (ag ak av : Option Addr) (cg ck cs : Nat) (gs : List Grp) (ks ss : List Ent) (s t : Stg) (hgl : gs.length ≤ maxLen) (hkl : ks.length ≤ maxLen) (hsl : ss.length ≤ maxLen)
    (hgo : ∀ G ∈ gs, G.n.size ≤ maxLen) (hko : ∀ E ∈ ks, E.ok) (hso : ∀ E ∈ ss, E.ok) (hs : s.ok) (ht : t.ok) (w : World) (hg : GRow w ag gs) (hk : ERow w ak ks) (hse : ERow w av ss) :
    Calls Try.prog 3 #[.slice ag gs.length cg, .slice ak ks.length ck, .slice av ss.length cs, sv s, sv t] w fun e w' => e = .returned (.bool true) ∧ Below w.heap.size w w' := by
  have hal : Below w.heap.size w ((w.alloc (obS s)).alloc (obS t)) := ((Below.refl _ _).alloc (Nat.le_refl _) _).alloc (by simp) _
  have S0 : Hid (Sit w ag ak av gs ks ss ((w.alloc (obS s)).alloc (obS t))) := ⟨hg.later hal, hk.later hal, hse.later hal, hal⟩
  have hs0 : StgAt ((w.alloc (obS s)).alloc (obS t)) w.heap.size 0 s := by unfold StgAt; go_simp
  have ht0 : StgAt ((w.alloc (obS s)).alloc (obS t)) (w.heap.size + 1) 0 t := by unfold StgAt; go_simp
  have HS0 : Hid (StgAt ((w.alloc (obS s)).alloc (obS t)) w.heap.size 0 s) := hs0
  have HT0 : Hid (StgAt ((w.alloc (obS s)).alloc (obS t)) (w.heap.size + 1) 0 t) := ht0
  have HARG : Hid ((∀ G ∈ gs, G.n.size ≤ maxLen) ∧ (∀ E ∈ ks, E.ok) ∧ ∀ E ∈ ss, E.ok) := ⟨hgo, hko, hso⟩
  have HOK : Hid (s.ok ∧ t.ok) := ⟨hs, ht⟩
  have HLN : Hid (gs.length ≤ maxLen ∧ ks.length ≤ maxLen ∧ ss.length ≤ maxLen) := ⟨hgl, hkl, hsl⟩
  clear hg hk hse hgo hko hso hs ht hgl hkl hsl hs0 ht0 hal
  go_enter Try.func3, Try.ntmps3
  go_wp2_with fail
  refine (bytes1_any ag ak av cg ck cs gs ks ss s t HLN.out.1 HLN.out.2.1 HLN.out.2.2 HARG.out.1 HARG.out.2.1 HARG.out.2.2 HOK.out.1 HOK.out.2 _ S0.out.rg S0.out.rk S0.out.rs).mono ?_
  rintro e w1 ⟨⟨b1, rfl⟩, hb1⟩
  have S1 : Hid (Sit w ag ak av gs ks ss w1) := S0.out.later hb1
  have HS1 : Hid (StgAt w1 w.heap.size 0 s) := HS0.out.later hb1
  have HT1 : Hid (StgAt w1 (w.heap.size + 1) 0 t) := HT0.out.later hb1
  clear S0 HS0 HT0 hb1
  obtain ⟨x0, x1, x2, x3, x4, x5, x6⟩ := HS1.out
  obtain ⟨y0, y1, y2, y3, y4, y5, y6⟩ := HT1.out
  cases b1
  · go_wp2_with fail
    go_ret
    exact ⟨rfl, S1.out.bel⟩
  go_wp2_with fail
  clear x0 x1 x2 x3 x4 x5 x6 y0 y1 y2 y3 y4 y5 y6
  refine (fits_all ag ak av cg ck cs gs ks ss s t HLN.out.1 HLN.out.2.1 HLN.out.2.2 HARG.out.1 HARG.out.2.1 HARG.out.2.2 HOK.out.1 HOK.out.2 _ S1.out.rg S1.out.rk S1.out.rs).mono ?_
  rintro e w2 ⟨⟨b2, rfl, hb2t⟩, hb2⟩
  have HB2 : Hid (b2 = true → gs.length ≤ 4096 ∧ ks.length ≤ 4096 ∧ ss.length ≤ 4096 ∧ (∀ E ∈ ks, E.ss.length ≤ 4096) ∧ ∀ E ∈ ss, E.ss.length ≤ 4096) := hb2t
  have S2 : Hid (Sit w ag ak av gs ks ss w2) := S1.out.later hb2
  have HS2 : Hid (StgAt w2 w.heap.size 0 s) := HS1.out.later hb2
  have HT2 : Hid (StgAt w2 (w.heap.size + 1) 0 t) := HT1.out.later hb2
  clear S1 HS1 HT1 hb2 hb2t
  obtain ⟨x0, x1, x2, x3, x4, x5, x6⟩ := HS2.out
  cases b2
  · go_wp2_with fail
    go_ret
    exact ⟨rfl, S2.out.bel⟩
  have HF : Hid (gs.length ≤ 4096 ∧ ks.length ≤ 4096 ∧ ss.length ≤ 4096 ∧ (∀ E ∈ ks, E.ss.length ≤ 4096) ∧ ∀ E ∈ ss, E.ss.length ≤ 4096) := HB2.out rfl
  clear HB2
  go_wp2_with fail
  clear x0 x1 x2 x3 x4 x5 x6
  refine (setting_any s _).mono ?_
  rintro e w3 ⟨rfl, hb3⟩
  have hb4 : Below w2.heap.size w2 (w3.alloc (obM s)) := hb3.trans ((Below.refl _ _).alloc hb3.size _)
  have S4 : Hid (Sit w ag ak av gs ks ss (w3.alloc (obM s))) := S2.out.later hb4
  have HS4 : Hid (StgAt (w3.alloc (obM s)) w.heap.size 0 s) := HS2.out.later hb4
  have HT4 : Hid (StgAt (w3.alloc (obM s)) (w.heap.size + 1) 0 t) := HT2.out.later hb4
  have hm4 : StgAt (w3.alloc (obM s)) w3.heap.size 0 s := by unfold StgAt; go_simp
  have HM4 : Hid (StgAt (w3.alloc (obM s)) w3.heap.size 0 s) := hm4
  obtain ⟨y0, y1, y2, y3, y4, y5, y6⟩ := HT2.out.later hb3
  have l1 : w.heap.size + 1 < w3.heap.size := lt_of_cell y0
  clear S2 HS2 HT2 hb3 hb4 hm4
  go_wp2_with fail
  clear y0 y1 y2 y3 y4 y5 y6
  refine (setting_any t _).mono ?_
  rintro e w5 ⟨rfl, hb5⟩
  generalize hb11 : w3.heap.size = b11 at *
  generalize w3.alloc (obM s) = w4 at *
  have hb6 : Below w4.heap.size w4 (w5.alloc (obM t)) := hb5.trans ((Below.refl _ _).alloc hb5.size _)
  have S6 : Hid (Sit w ag ak av gs ks ss (w5.alloc (obM t))) := S4.out.later hb6
  have HS6 : Hid (StgAt (w5.alloc (obM t)) w.heap.size 0 s) := HS4.out.later hb6
  have HM6 : Hid (StgAt (w5.alloc (obM t)) b11 0 s) := HM4.out.later hb6
  have hn6 : StgAt (w5.alloc (obM t)) w5.heap.size 0 t := by unfold StgAt; go_simp
  have HN6 : Hid (StgAt (w5.alloc (obM t)) w5.heap.size 0 t) := hn6
  obtain ⟨x0, x1, x2, x3, x4, x5, x6⟩ := HM4.out.later hb5
  have l2 : b11 < w5.heap.size := lt_of_cell x0
  clear S4 HS4 HT4 HM4 hb5 hb6 hn6 l1 hb11 HOK HLN HARG
  go_wp2_with fail
  clear x0 x1 x2 x3 x4 x5 x6
  generalize hb12 : w5.heap.size = b12 at *
  generalize w5.alloc (obM t) = W6 at *
  clear hb12 l2
  refine (config_any ag ak av cg ck cs gs ks ss false s HF.out.1 HF.out.2.1 HF.out.2.2.1 HF.out.2.2.2.1 HF.out.2.2.2.2 _ S6.out.rg S6.out.rk S6.out.rs).mono ?_
  rintro e w7 ⟨⟨c, ck1, cg1, cs1, rfl, C0⟩, hb7⟩
  have S7 : Hid (Sit w ag ak av gs ks ss w7) := S6.out.later hb7
  have HS7 : Hid (StgAt w7 w.heap.size 0 s) := HS6.out.later hb7
  have HM7 : Hid (StgAt w7 b11 0 s) := HM6.out.later hb7
  have HN7 : Hid (StgAt w7 b12 0 t) := HN6.out.later hb7
  have HC7 : Hid (Cfg w7 c ck1 cg1 cs1 (tblOf false s ks) (grpOf gs) (tblOf false s ss)) := C0.2.2.2.2.2.2.2
  obtain ⟨x0, x1, x2, x3, x4, x5, x6⟩ := HM7.out
  clear S6 HS6 HM6 HN6 hb7 C0
  go_wp2_with fail
  clear x0 x1 x2 x3 x4 x5 x6
  refine (config_any ag ak av cg ck cs gs ks ss false s HF.out.1 HF.out.2.1 HF.out.2.2.1 HF.out.2.2.2.1 HF.out.2.2.2.2 _ S7.out.rg S7.out.rk S7.out.rs).mono ?_
  rintro e w8 ⟨⟨p, pk, pg, ps, rfl, zp, zk, zg, zs, nks, ngk, ngs, C0⟩, hb8⟩
  have S8 : Hid (Sit w ag ak av gs ks ss w8) := S7.out.later hb8
  have HS8 : Hid (StgAt w8 w.heap.size 0 s) := HS7.out.later hb8
  have HM8 : Hid (StgAt w8 b11 0 s) := HM7.out.later hb8
  have HN8 : Hid (StgAt w8 b12 0 t) := HN7.out.later hb8
  have HC8 : Hid (Cfg w8 c ck1 cg1 cs1 (tblOf false s ks) (grpOf gs) (tblOf false s ss)) := HC7.out.later hb8
  have HP8 : Hid (Cfg w8 p pk pg ps (tblOf false s ks) (grpOf gs) (tblOf false s ss)) := C0
  have k1 := HC7.out.tk.lt
  have k2 := HC7.out.gg.lt
  have k3 := HC7.out.ts.lt
  have z7 := S7.out.bel.size
  have hH9 : HeldP w.heap.size b11 p 3 pk s w8 := heldP_of HP8.out.c3 HS8.out HM8.out
  have HH9 : Hid (HeldP w.heap.size b11 p 3 pk s w8) := hH9
  clear S7 HS7 HM7 HN7 HC7 hb8 C0 hH9
  have htl : (tblOf false s ks s.g s.o).length ≤ 4096 := tblOf_le false s HF.out.2.2.2.1 _ _
  go_upto_region 9 with fail
  go_region_held3 (fun w' => w'.cell? ⟨p, 3, none⟩ = some (.map (some pk)) ∧ w'.cell? ⟨w.heap.size, 3, none⟩ = some (.string s.g) ∧ w'.cell? ⟨w.heap.size, 4, none⟩ = some (.string s.o) ∧ w'.cell? ⟨b11, 0, none⟩ = some (.string s.f) ∧ w'.cell? ⟨b11, 1, none⟩ = some (.int .i64 s.l) ∧ w'.cell? ⟨b11, 2, none⟩ = some (.int .i64 s.e) ∧ w'.cell? ⟨b11, 3, none⟩ = some (.string s.g) ∧ w'.cell? ⟨b11, 4, none⟩ = some (.string s.o) ∧ w'.cell? ⟨b11, 5, none⟩ = some (.string s.v) ∧ w'.cell? ⟨b11, 6, none⟩ = some (.bool s.h))
    (first | exact HH9.out | exact heldP_kept hpt9.cells (by assumption))
    (first
      | (go_at_call 9; refine (put_any pk (tblOf false s ks) s.g s.o s htl _ (HP8.out.tk.later (Below.refl _ _).drew)).mono ?_; rintro e w9 ⟨rfl, htb9, hpt9⟩))
  have T9 : PutTurn w8 w9 pk := hpt9.undrew
  have S9 : Hid (Sit w ag ak av gs ks ss w9) := S8.out.put T9 (by omega)
  have HS9 : Hid (StgAt w9 w.heap.size 0 s) := HS8.out.kept T9.cells
  have HM9 : Hid (StgAt w9 b11 0 s) := HM8.out.kept T9.cells
  have HN9 : Hid (StgAt w9 b12 0 t) := HN8.out.kept T9.cells
  have HC9 : Hid (Cfg w9 c ck1 cg1 cs1 (tblOf false s ks) (grpOf gs) (tblOf false s ss)) := HC8.out.put T9 (by omega) (by omega) (by omega)
  have HP9 : Hid (Cfg w9 p pk pg ps (putT (tblOf false s ks) s.g s.o s) (grpOf gs) (tblOf false s ss)) := HP8.out.putK T9 htb9 ngk (fun h => nks h.symm)
  have HH10 : Hid (HeldP w.heap.size b11 p 5 ps s w9) := heldP_of HP9.out.c5 HS9.out HM9.out
  clear T9 S8 HS8 HM8 HN8 HC8 HP8 HH9 htl htb9 hpt9
  have htl : (tblOf false s ss nob s.o).length ≤ 4096 := tblOf_le false s HF.out.2.2.2.2 _ _
  go_upto_region 10 with fail
  go_region_held3 (fun w' => w'.cell? ⟨p, 5, none⟩ = some (.map (some ps)) ∧ w'.cell? ⟨w.heap.size, 3, none⟩ = some (.string s.g) ∧ w'.cell? ⟨w.heap.size, 4, none⟩ = some (.string s.o) ∧ w'.cell? ⟨b11, 0, none⟩ = some (.string s.f) ∧ w'.cell? ⟨b11, 1, none⟩ = some (.int .i64 s.l) ∧ w'.cell? ⟨b11, 2, none⟩ = some (.int .i64 s.e) ∧ w'.cell? ⟨b11, 3, none⟩ = some (.string s.g) ∧ w'.cell? ⟨b11, 4, none⟩ = some (.string s.o) ∧ w'.cell? ⟨b11, 5, none⟩ = some (.string s.v) ∧ w'.cell? ⟨b11, 6, none⟩ = some (.bool s.h))
    (first | exact HH10.out | exact heldP_kept hpt10.cells (by assumption))
    (first
      | (go_at_call 9; refine (put_any ps (tblOf false s ss) nob s.o s htl _ (HP9.out.ts.later (Below.refl _ _).drew)).mono ?_; rintro e w10 ⟨rfl, htb10, hpt10⟩))
  have T10 : PutTurn w9 w10 ps := hpt10.undrew
  have S10 : Hid (Sit w ag ak av gs ks ss w10) := S9.out.put T10 (by omega)
  have HM10 : Hid (StgAt w10 b11 0 s) := HM9.out.kept T10.cells
  have HN10 : Hid (StgAt w10 b12 0 t) := HN9.out.kept T10.cells
  have HC10 : Hid (Cfg w10 c ck1 cg1 cs1 (tblOf false s ks) (grpOf gs) (tblOf false s ss)) := HC9.out.put T10 (by omega) (by omega) (by omega)
  have HP10 : Hid (Cfg w10 p pk pg ps (putT (tblOf false s ks) s.g s.o s) (grpOf gs) (putT (tblOf false s ss) nob s.o s)) := HP9.out.putS T10 htb10 nks ngs
  obtain ⟨x0, x1, x2, x3, x4, x5, x6⟩ := HM10.out
  clear T10 S9 HS9 HM9 HN9 HC9 HP9 HH10 htl htb10 hpt10 k1 k2 k3 z7 zp zk zg zs nks ngk ngs
  go_wp2_with fail
  clear x0 x1 x2 x3 x4 x5 x6
  refine (config_any ag ak av cg ck cs gs ks ss true s HF.out.1 HF.out.2.1 HF.out.2.2.1 HF.out.2.2.2.1 HF.out.2.2.2.2 _ S10.out.rg S10.out.rk S10.out.rs).mono ?_
  rintro e w11 ⟨⟨q, qk, qg, qs, rfl, zp, zk, zg, zs, nks, ngk, ngs, C0⟩, hb11⟩
  have B11 : Hid (Below w.heap.size w w11) := (S10.out.later hb11).bel
  have HM11 : Hid (StgAt w11 b11 0 s) := HM10.out.later hb11
  have HN11 : Hid (StgAt w11 b12 0 t) := HN10.out.later hb11
  have HC11 : Hid (Cfg w11 c ck1 cg1 cs1 (tblOf false s ks) (grpOf gs) (tblOf false s ss)) := HC10.out.later hb11
  have HP11 : Hid (Cfg w11 p pk pg ps (putT (tblOf false s ks) s.g s.o s) (grpOf gs) (putT (tblOf false s ss) nob s.o s)) := HP10.out.later hb11
  have HQ11 : Hid (Cfg w11 q qk qg qs (tblOf true s ks) (grpOf gs) (tblOf true s ss)) := C0
  have LK : Hid (TblLe 4096 (tblOf false s ks) ∧ TblLe 4096 (tblOf false s ss)) := ⟨tblOf_le false s HF.out.2.2.2.1, tblOf_le false s HF.out.2.2.2.2⟩
  have L0 : Hid (TblLe 4097 (tblOf false s ks) ∧ TblLe 4097 (tblOf false s ss)) := ⟨fun G O => Nat.le_succ_of_le (LK.out.1 G O), fun G O => Nat.le_succ_of_le (LK.out.2 G O)⟩
  have LP : Hid (TblLe 4097 (putT (tblOf false s ks) s.g s.o s) ∧ TblLe 4097 (putT (tblOf false s ss) nob s.o s)) := ⟨putT_le LK.out.1 _ _ _, putT_le LK.out.2 _ _ _⟩
  have LQ : Hid (TblLe 4097 (tblOf true s ks) ∧ TblLe 4097 (tblOf true s ss)) := ⟨tblOf_le true s (fun E h => Nat.le_succ_of_le (HF.out.2.2.2.1 E h)), tblOf_le true s (fun E h => Nat.le_succ_of_le (HF.out.2.2.2.2 E h))⟩
  have R1 : Hid (kp (putT (tblOf false s ks) s.g s.o s) (grpOf gs) (putT (tblOf false s ss) nob s.o s) s = true) := law_put_self _ _ _ _
  have R2 : Hid (kp (tblOf true s ks) (grpOf gs) (tblOf true s ss) s = false) := law_take_self _ _ _ _
  have R3 : Hid (kp (putT (tblOf false s ks) s.g s.o s) (grpOf gs) (putT (tblOf false s ss) nob s.o s) t = (kp (tblOf false s ks) (grpOf gs) (tblOf false s ss) t || sEq t s)) := law_put _ _ _ _ _
  have R4 : Hid (kp (tblOf true s ks) (grpOf gs) (tblOf true s ss) t = (kp (tblOf false s ks) (grpOf gs) (tblOf false s ss) t && !sEq t s)) := law_take _ _ _ _ _
  obtain ⟨y0, y1, y2, y3, y4, y5, y6⟩ := HN11.out
  clear HM10 HN10 HC10 HP10 S10 hb11 C0 zp zk zg zs nks ngk ngs HF LK
  generalize grpOf gs = f at *
  generalize putT (tblOf false s ks) s.g s.o s = Pk at *
  generalize putT (tblOf false s ss) nob s.o s = Ps at *
  generalize tblOf false s ks = Tk at *
  generalize tblOf false s ss = Ts at *
  generalize tblOf true s ks = Qk at *
  generalize tblOf true s ss = Qs at *
  go_wp2_with fail
  clear y0 y1 y2 y3 y4 y5 y6
  refine (keeps_kp c ck1 cg1 cs1 Tk f Ts t L0.out.1 L0.out.2 _ HC11.out).mono ?_
  rintro e w12 ⟨rfl, hb12⟩
  have B12 : Hid (Below w.heap.size w w12) := B11.out.trans (hb12.mono B11.out.size)
  have HM12 : Hid (StgAt w12 b11 0 s) := HM11.out.later hb12
  have HN12 : Hid (StgAt w12 b12 0 t) := HN11.out.later hb12
  have HP12 : Hid (Cfg w12 p pk pg ps Pk f Ps) := HP11.out.later hb12
  have HQ12 : Hid (Cfg w12 q qk qg qs Qk f Qs) := HQ11.out.later hb12
  obtain ⟨x0, x1, x2, x3, x4, x5, x6⟩ := HM12.out
  clear B11 HM11 HN11 HC11 HP11 HQ11 hb12
  have hq1 := eql27
  have hq2 := neq27
  cases hbf : kp Tk f Ts t
  · cases hst : sEq t s
    · have R3' : Hid (kp Pk f Ps t = false) := by show _ = _; rw [R3.out, hbf, hst]; rfl
      have R4' : Hid (kp Qk f Qs t = false) := by show _ = _; rw [R4.out, hbf, hst]; rfl
      clear hbf R3 R4
      go_wp2_with fail
      clear x0 x1 x2 x3 x4 x5 x6
      refine (keeps_as p pk pg ps Pk f Ps s LP.out true R1.out _ HP12.out).mono ?_
      rintro e w13 ⟨rfl, hb13⟩
      have B13 : Hid (Below w.heap.size w w13) := B12.out.trans (hb13.mono B12.out.size)
      have HM13 : Hid (StgAt w13 b11 0 s) := HM12.out.later hb13
      have HN13 : Hid (StgAt w13 b12 0 t) := HN12.out.later hb13
      have HP13 : Hid (Cfg w13 p pk pg ps Pk f Ps) := HP12.out.later hb13
      have HQ13 : Hid (Cfg w13 q qk qg qs Qk f Qs) := HQ12.out.later hb13
      obtain ⟨x0, x1, x2, x3, x4, x5, x6⟩ := HM13.out
      clear B12 HM12 HN12 HP12 HQ12 hb13
      go_wp2_with fail
      clear x0 x1 x2 x3 x4 x5 x6
      refine (keeps_as q qk qg qs Qk f Qs s LQ.out false R2.out _ HQ13.out).mono ?_
      rintro e w14 ⟨rfl, hb14⟩
      have B14 : Hid (Below w.heap.size w w14) := B13.out.trans (hb14.mono B13.out.size)
      have HM14 : Hid (StgAt w14 b11 0 s) := HM13.out.later hb14
      have HN14 : Hid (StgAt w14 b12 0 t) := HN13.out.later hb14
      have HP14 : Hid (Cfg w14 p pk pg ps Pk f Ps) := HP13.out.later hb14
      have HQ14 : Hid (Cfg w14 q qk qg qs Qk f Qs) := HQ13.out.later hb14
      obtain ⟨y0, y1, y2, y3, y4, y5, y6⟩ := HN14.out
      clear B13 HM13 HN13 HP13 HQ13 hb14
      go_wp2_with fail
      clear y0 y1 y2 y3 y4 y5 y6
      refine (keeps_as p pk pg ps Pk f Ps t LP.out false R3'.out _ HP14.out).mono ?_
      rintro e w15 ⟨rfl, hb15⟩
      have B15 : Hid (Below w.heap.size w w15) := B14.out.trans (hb15.mono B14.out.size)
      have HM15 : Hid (StgAt w15 b11 0 s) := HM14.out.later hb15
      have HN15 : Hid (StgAt w15 b12 0 t) := HN14.out.later hb15
      have HQ15 : Hid (Cfg w15 q qk qg qs Qk f Qs) := HQ14.out.later hb15
      obtain ⟨x0, x1, x2, x3, x4, x5, x6⟩ := HM15.out
      obtain ⟨y0, y1, y2, y3, y4, y5, y6⟩ := HN15.out
      clear B14 HM14 HN14 HP14 HQ14 hb15
      go_wp2_with fail
      clear x0 x1 x2 x3 x4 x5 x6 y0 y1 y2 y3 y4 y5 y6
      refine (keeps_as q qk qg qs Qk f Qs t LQ.out false R4'.out _ HQ15.out).mono ?_
      rintro e w16 ⟨rfl, hb16⟩
      have B16 : Hid (Below w.heap.size w w16) := B15.out.trans (hb16.mono B15.out.size)
      obtain ⟨x0, x1, x2, x3, x4, x5, x6⟩ := HM15.out.later hb16
      obtain ⟨y0, y1, y2, y3, y4, y5, y6⟩ := HN15.out.later hb16
      clear B15 HM15 HN15 HQ15 hb16
      go_wp2_with fail
      go_ret
      exact ⟨rfl, B16.out⟩
    · have R3' : Hid (kp Pk f Ps t = true) := by show _ = _; rw [R3.out, hbf, hst]; rfl
      have R4' : Hid (kp Qk f Qs t = false) := by show _ = _; rw [R4.out, hbf, hst]; rfl
      clear hbf R3 R4
      go_wp2_with fail
      clear x0 x1 x2 x3 x4 x5 x6
      refine (keeps_as p pk pg ps Pk f Ps s LP.out true R1.out _ HP12.out).mono ?_
      rintro e w13 ⟨rfl, hb13⟩
      have B13 : Hid (Below w.heap.size w w13) := B12.out.trans (hb13.mono B12.out.size)
      have HM13 : Hid (StgAt w13 b11 0 s) := HM12.out.later hb13
      have HN13 : Hid (StgAt w13 b12 0 t) := HN12.out.later hb13
      have HP13 : Hid (Cfg w13 p pk pg ps Pk f Ps) := HP12.out.later hb13
      have HQ13 : Hid (Cfg w13 q qk qg qs Qk f Qs) := HQ12.out.later hb13
      obtain ⟨x0, x1, x2, x3, x4, x5, x6⟩ := HM13.out
      clear B12 HM12 HN12 HP12 HQ12 hb13
      go_wp2_with fail
      clear x0 x1 x2 x3 x4 x5 x6
      refine (keeps_as q qk qg qs Qk f Qs s LQ.out false R2.out _ HQ13.out).mono ?_
      rintro e w14 ⟨rfl, hb14⟩
      have B14 : Hid (Below w.heap.size w w14) := B13.out.trans (hb14.mono B13.out.size)
      have HM14 : Hid (StgAt w14 b11 0 s) := HM13.out.later hb14
      have HN14 : Hid (StgAt w14 b12 0 t) := HN13.out.later hb14
      have HP14 : Hid (Cfg w14 p pk pg ps Pk f Ps) := HP13.out.later hb14
      have HQ14 : Hid (Cfg w14 q qk qg qs Qk f Qs) := HQ13.out.later hb14
      obtain ⟨y0, y1, y2, y3, y4, y5, y6⟩ := HN14.out
      clear B13 HM13 HN13 HP13 HQ13 hb14
      go_wp2_with fail
      clear y0 y1 y2 y3 y4 y5 y6
      refine (keeps_as p pk pg ps Pk f Ps t LP.out true R3'.out _ HP14.out).mono ?_
      rintro e w15 ⟨rfl, hb15⟩
      have B15 : Hid (Below w.heap.size w w15) := B14.out.trans (hb15.mono B14.out.size)
      have HM15 : Hid (StgAt w15 b11 0 s) := HM14.out.later hb15
      have HN15 : Hid (StgAt w15 b12 0 t) := HN14.out.later hb15
      have HQ15 : Hid (Cfg w15 q qk qg qs Qk f Qs) := HQ14.out.later hb15
      obtain ⟨x0, x1, x2, x3, x4, x5, x6⟩ := HM15.out
      obtain ⟨y0, y1, y2, y3, y4, y5, y6⟩ := HN15.out
      clear B14 HM14 HN14 HP14 HQ14 hb15
      go_wp2_with fail
      clear x0 x1 x2 x3 x4 x5 x6 y0 y1 y2 y3 y4 y5 y6
      refine (keeps_as q qk qg qs Qk f Qs t LQ.out false R4'.out _ HQ15.out).mono ?_
      rintro e w16 ⟨rfl, hb16⟩
      have B16 : Hid (Below w.heap.size w w16) := B15.out.trans (hb16.mono B15.out.size)
      obtain ⟨x0, x1, x2, x3, x4, x5, x6⟩ := HM15.out.later hb16
      obtain ⟨y0, y1, y2, y3, y4, y5, y6⟩ := HN15.out.later hb16
      clear B15 HM15 HN15 HQ15 hb16
      go_wp2_with fail
      go_ret
      exact ⟨rfl, B16.out⟩
  · cases hst : sEq t s
    · have R3' : Hid (kp Pk f Ps t = true) := by show _ = _; rw [R3.out, hbf, hst]; rfl
      have R4' : Hid (kp Qk f Qs t = true) := by show _ = _; rw [R4.out, hbf, hst]; rfl
      clear hbf R3 R4
      go_wp2_with fail
      clear x0 x1 x2 x3 x4 x5 x6
      refine (keeps_as p pk pg ps Pk f Ps s LP.out true R1.out _ HP12.out).mono ?_
      rintro e w13 ⟨rfl, hb13⟩
      have B13 : Hid (Below w.heap.size w w13) := B12.out.trans (hb13.mono B12.out.size)
      have HM13 : Hid (StgAt w13 b11 0 s) := HM12.out.later hb13
      have HN13 : Hid (StgAt w13 b12 0 t) := HN12.out.later hb13
      have HP13 : Hid (Cfg w13 p pk pg ps Pk f Ps) := HP12.out.later hb13
      have HQ13 : Hid (Cfg w13 q qk qg qs Qk f Qs) := HQ12.out.later hb13
      obtain ⟨x0, x1, x2, x3, x4, x5, x6⟩ := HM13.out
      clear B12 HM12 HN12 HP12 HQ12 hb13
      go_wp2_with fail
      clear x0 x1 x2 x3 x4 x5 x6
      refine (keeps_as q qk qg qs Qk f Qs s LQ.out false R2.out _ HQ13.out).mono ?_
      rintro e w14 ⟨rfl, hb14⟩
      have B14 : Hid (Below w.heap.size w w14) := B13.out.trans (hb14.mono B13.out.size)
      have HM14 : Hid (StgAt w14 b11 0 s) := HM13.out.later hb14
      have HN14 : Hid (StgAt w14 b12 0 t) := HN13.out.later hb14
      have HP14 : Hid (Cfg w14 p pk pg ps Pk f Ps) := HP13.out.later hb14
      have HQ14 : Hid (Cfg w14 q qk qg qs Qk f Qs) := HQ13.out.later hb14
      obtain ⟨y0, y1, y2, y3, y4, y5, y6⟩ := HN14.out
      clear B13 HM13 HN13 HP13 HQ13 hb14
      go_wp2_with fail
      clear y0 y1 y2 y3 y4 y5 y6
      refine (keeps_as p pk pg ps Pk f Ps t LP.out true R3'.out _ HP14.out).mono ?_
      rintro e w15 ⟨rfl, hb15⟩
      have B15 : Hid (Below w.heap.size w w15) := B14.out.trans (hb15.mono B14.out.size)
      have HM15 : Hid (StgAt w15 b11 0 s) := HM14.out.later hb15
      have HN15 : Hid (StgAt w15 b12 0 t) := HN14.out.later hb15
      have HQ15 : Hid (Cfg w15 q qk qg qs Qk f Qs) := HQ14.out.later hb15
      obtain ⟨x0, x1, x2, x3, x4, x5, x6⟩ := HM15.out
      obtain ⟨y0, y1, y2, y3, y4, y5, y6⟩ := HN15.out
      clear B14 HM14 HN14 HP14 HQ14 hb15
      go_wp2_with fail
      clear x0 x1 x2 x3 x4 x5 x6 y0 y1 y2 y3 y4 y5 y6
      refine (keeps_as q qk qg qs Qk f Qs t LQ.out true R4'.out _ HQ15.out).mono ?_
      rintro e w16 ⟨rfl, hb16⟩
      have B16 : Hid (Below w.heap.size w w16) := B15.out.trans (hb16.mono B15.out.size)
      obtain ⟨x0, x1, x2, x3, x4, x5, x6⟩ := HM15.out.later hb16
      obtain ⟨y0, y1, y2, y3, y4, y5, y6⟩ := HN15.out.later hb16
      clear B15 HM15 HN15 HQ15 hb16
      go_wp2_with fail
      go_ret
      exact ⟨rfl, B16.out⟩
    · have R3' : Hid (kp Pk f Ps t = true) := by show _ = _; rw [R3.out, hbf, hst]; rfl
      have R4' : Hid (kp Qk f Qs t = false) := by show _ = _; rw [R4.out, hbf, hst]; rfl
      clear hbf R3 R4
      go_wp2_with fail
      clear x0 x1 x2 x3 x4 x5 x6
      refine (keeps_as p pk pg ps Pk f Ps s LP.out true R1.out _ HP12.out).mono ?_
      rintro e w13 ⟨rfl, hb13⟩
      have B13 : Hid (Below w.heap.size w w13) := B12.out.trans (hb13.mono B12.out.size)
      have HM13 : Hid (StgAt w13 b11 0 s) := HM12.out.later hb13
      have HN13 : Hid (StgAt w13 b12 0 t) := HN12.out.later hb13
      have HP13 : Hid (Cfg w13 p pk pg ps Pk f Ps) := HP12.out.later hb13
      have HQ13 : Hid (Cfg w13 q qk qg qs Qk f Qs) := HQ12.out.later hb13
      obtain ⟨x0, x1, x2, x3, x4, x5, x6⟩ := HM13.out
      clear B12 HM12 HN12 HP12 HQ12 hb13
      go_wp2_with fail
      clear x0 x1 x2 x3 x4 x5 x6
      refine (keeps_as q qk qg qs Qk f Qs s LQ.out false R2.out _ HQ13.out).mono ?_
      rintro e w14 ⟨rfl, hb14⟩
      have B14 : Hid (Below w.heap.size w w14) := B13.out.trans (hb14.mono B13.out.size)
      have HM14 : Hid (StgAt w14 b11 0 s) := HM13.out.later hb14
      have HN14 : Hid (StgAt w14 b12 0 t) := HN13.out.later hb14
      have HP14 : Hid (Cfg w14 p pk pg ps Pk f Ps) := HP13.out.later hb14
      have HQ14 : Hid (Cfg w14 q qk qg qs Qk f Qs) := HQ13.out.later hb14
      obtain ⟨y0, y1, y2, y3, y4, y5, y6⟩ := HN14.out
      clear B13 HM13 HN13 HP13 HQ13 hb14
      go_wp2_with fail
      clear y0 y1 y2 y3 y4 y5 y6
      refine (keeps_as p pk pg ps Pk f Ps t LP.out true R3'.out _ HP14.out).mono ?_
      rintro e w15 ⟨rfl, hb15⟩
      have B15 : Hid (Below w.heap.size w w15) := B14.out.trans (hb15.mono B14.out.size)
      have HM15 : Hid (StgAt w15 b11 0 s) := HM14.out.later hb15
      have HN15 : Hid (StgAt w15 b12 0 t) := HN14.out.later hb15
      have HQ15 : Hid (Cfg w15 q qk qg qs Qk f Qs) := HQ14.out.later hb15
      obtain ⟨x0, x1, x2, x3, x4, x5, x6⟩ := HM15.out
      obtain ⟨y0, y1, y2, y3, y4, y5, y6⟩ := HN15.out
      clear B14 HM14 HN14 HP14 HQ14 hb15
      go_wp2_with fail
      clear x0 x1 x2 x3 x4 x5 x6 y0 y1 y2 y3 y4 y5 y6
      refine (keeps_as q qk qg qs Qk f Qs t LQ.out false R4'.out _ HQ15.out).mono ?_
      rintro e w16 ⟨rfl, hb16⟩
      have B16 : Hid (Below w.heap.size w w16) := B15.out.trans (hb16.mono B15.out.size)
      obtain ⟨x0, x1, x2, x3, x4, x5, x6⟩ := HM15.out.later hb16
      obtain ⟨y0, y1, y2, y3, y4, y5, y6⟩ := HN15.out.later hb16
      clear B15 HM15 HN15 HQ15 hb16
      go_wp2_with fail
      go_ret
      exact ⟨rfl, B16.out⟩

end Go.Proofs.Qxb6630397a
