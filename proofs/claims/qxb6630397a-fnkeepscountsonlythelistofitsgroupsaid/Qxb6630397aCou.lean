import Derived.Test.Qxb6630397aSit
import Derived.Test.Qxb6630397aByu
namespace Go.Proofs.Qxb6630397a
open Go.RowKit

set_option maxRecDepth 50000 in
set_option maxHeartbeats 16000000 in
theorem countsOnly_any (ag ak av : Option Addr) (cg ck cs : Nat) (gs : List Grp) (ks ss : List Ent) (s : Stg) (hgl : gs.length ≤ maxLen) (hkl : ks.length ≤ maxLen) (hsl : ss.length ≤ maxLen)
    (hgo : ∀ G ∈ gs, G.n.size ≤ maxLen) (hko : ∀ E ∈ ks, E.ok) (hso : ∀ E ∈ ss, E.ok) (hs : s.ok) (w : World) (hg : GRow w ag gs) (hk : ERow w ak ks) (hse : ERow w av ss) :
    Calls Try.prog 4 #[.slice ag gs.length cg, .slice ak ks.length ck, .slice av ss.length cs, sv s] w fun e w' => e = .returned (.bool true) ∧ Below w.heap.size w w' := by
  have hal : Below w.heap.size w (w.alloc (obS s)) := (Below.refl _ _).alloc (Nat.le_refl _) _
  have S0 : Hid (Sit w ag ak av gs ks ss (w.alloc (obS s))) := ⟨hg.later hal, hk.later hal, hse.later hal, hal⟩
  have hs0 : StgAt (w.alloc (obS s)) w.heap.size 0 s := by unfold StgAt; go_simp
  have HS0 : Hid (StgAt (w.alloc (obS s)) w.heap.size 0 s) := hs0
  have HARG : Hid ((∀ G ∈ gs, G.n.size ≤ maxLen) ∧ (∀ E ∈ ks, E.ok) ∧ ∀ E ∈ ss, E.ok) := ⟨hgo, hko, hso⟩
  have HOK : Hid s.ok := hs
  have HLN : Hid (gs.length ≤ maxLen ∧ ks.length ≤ maxLen ∧ ss.length ≤ maxLen) := ⟨hgl, hkl, hsl⟩
  clear hg hk hse hgo hko hso hs hgl hkl hsl hs0 hal
  go_enter Try.func4, Try.ntmps4
  go_wp2_with fail
  refine (bytes2_any ag ak av cg ck cs gs ks ss s HLN.out.1 HLN.out.2.1 HLN.out.2.2 HARG.out.1 HARG.out.2.1 HARG.out.2.2 HOK.out _ S0.out.rg S0.out.rk S0.out.rs).mono ?_
  rintro e w1 ⟨⟨b1, rfl⟩, hb1⟩
  have S1 : Hid (Sit w ag ak av gs ks ss w1) := S0.out.later hb1
  have HS1 : Hid (StgAt w1 w.heap.size 0 s) := HS0.out.later hb1
  clear S0 HS0 hb1
  obtain ⟨x0, x1, x2, x3, x4, x5, x6⟩ := HS1.out
  cases b1
  · go_wp2_with fail
    go_ret
    exact ⟨rfl, S1.out.bel⟩
  go_wp2_with fail
  clear x0 x1 x2 x3 x4 x5 x6
  refine (fits_all ag ak av cg ck cs gs ks ss s s HLN.out.1 HLN.out.2.1 HLN.out.2.2 HARG.out.1 HARG.out.2.1 HARG.out.2.2 HOK.out HOK.out _ S1.out.rg S1.out.rk S1.out.rs).mono ?_
  rintro e w2 ⟨⟨b2, rfl, hb2t⟩, hb2⟩
  have HB2 : Hid (b2 = true → gs.length ≤ 4096 ∧ ks.length ≤ 4096 ∧ ss.length ≤ 4096 ∧ (∀ E ∈ ks, E.ss.length ≤ 4096) ∧ ∀ E ∈ ss, E.ss.length ≤ 4096) := hb2t
  have S2 : Hid (Sit w ag ak av gs ks ss w2) := S1.out.later hb2
  have HS2 : Hid (StgAt w2 w.heap.size 0 s) := HS1.out.later hb2
  clear S1 HS1 hb2 hb2t
  obtain ⟨x0, x1, x2, x3, x4, x5, x6⟩ := HS2.out
  cases b2
  · go_wp2_with fail
    go_ret
    exact ⟨rfl, S2.out.bel⟩
  have HF : Hid (gs.length ≤ 4096 ∧ ks.length ≤ 4096 ∧ ss.length ≤ 4096 ∧ (∀ E ∈ ks, E.ss.length ≤ 4096) ∧ ∀ E ∈ ss, E.ss.length ≤ 4096) := HB2.out rfl
  clear HB2
  go_wp2_with fail
  clear x0 x1 x2 x3 x4 x5 x6
  refine (setting_any s _).mono ?_
  rintro e w3 ⟨rfl, hb3⟩
  have hb4 : Below w2.heap.size w2 (w3.alloc (obM s)) := hb3.trans ((Below.refl _ _).alloc hb3.size _)
  have S4 : Hid (Sit w ag ak av gs ks ss (w3.alloc (obM s))) := S2.out.later hb4
  have HS4 : Hid (StgAt (w3.alloc (obM s)) w.heap.size 0 s) := HS2.out.later hb4
  have hm4 : StgAt (w3.alloc (obM s)) w3.heap.size 0 s := by unfold StgAt; go_simp
  have HM4 : Hid (StgAt (w3.alloc (obM s)) w3.heap.size 0 s) := hm4
  obtain ⟨x0, x1, x2, x3, x4, x5, x6⟩ := HS2.out.later hb3
  have l1 : w.heap.size < w3.heap.size := lt_of_cell x0
  clear S2 HS2 hb3 hb4 hm4 HOK HLN HARG
  go_wp2_with fail
  clear x0 x1 x2 x3 x4 x5 x6
  refine (served_any ag cg gs s.g HF.out.1 _ S4.out.rg).mono ?_
  rintro e W4 ⟨rfl, rfl⟩
  obtain ⟨x0, x1, x2, x3, x4, x5, x6⟩ := HM4.out
  generalize hb11 : w3.heap.size = b11 at *
  generalize w3.alloc (obM s) = W6 at *
  clear hb11 l1
  go_wp2_with fail
  clear x0 x1 x2 x3 x4 x5 x6
  refine (config_any ag ak av cg ck cs gs ks ss false s HF.out.1 HF.out.2.1 HF.out.2.2.1 HF.out.2.2.2.1 HF.out.2.2.2.2 _ S4.out.rg S4.out.rk S4.out.rs).mono ?_
  rintro e w7 ⟨⟨c, ck1, cg1, cs1, rfl, C0⟩, hb7⟩
  have S7 : Hid (Sit w ag ak av gs ks ss w7) := S4.out.later hb7
  have HS7 : Hid (StgAt w7 w.heap.size 0 s) := HS4.out.later hb7
  have HM7 : Hid (StgAt w7 b11 0 s) := HM4.out.later hb7
  have HC7 : Hid (Cfg w7 c ck1 cg1 cs1 (tblOf false s ks) (grpOf gs) (tblOf false s ss)) := C0.2.2.2.2.2.2.2
  obtain ⟨x0, x1, x2, x3, x4, x5, x6⟩ := HM7.out
  clear S4 HS4 HM4 hb7 C0
  go_wp2_with fail
  clear x0 x1 x2 x3 x4 x5 x6
  refine (config_any ag ak av cg ck cs gs ks ss false s HF.out.1 HF.out.2.1 HF.out.2.2.1 HF.out.2.2.2.1 HF.out.2.2.2.2 _ S7.out.rg S7.out.rk S7.out.rs).mono ?_
  rintro e w8 ⟨⟨p, pk, pg, ps, rfl, zp, zk, zg, zs, nks, ngk, ngs, C0⟩, hb8⟩
  have S8 : Hid (Sit w ag ak av gs ks ss w8) := S7.out.later hb8
  have HS8 : Hid (StgAt w8 w.heap.size 0 s) := HS7.out.later hb8
  have HM8 : Hid (StgAt w8 b11 0 s) := HM7.out.later hb8
  have HC8 : Hid (Cfg w8 c ck1 cg1 cs1 (tblOf false s ks) (grpOf gs) (tblOf false s ss)) := HC7.out.later hb8
  have HP8 : Hid (Cfg w8 p pk pg ps (tblOf false s ks) (grpOf gs) (tblOf false s ss)) := C0
  have k1 := HC7.out.tk.lt
  have k2 := HC7.out.gg.lt
  have k3 := HC7.out.ts.lt
  have z7 := S7.out.bel.size
  have z8 := S8.out.bel.size
  have z78 := hb8.size
  have HH9 : Hid (HeldP w.heap.size b11 p 3 pk s w8) := heldP_of HP8.out.c3 HS8.out HM8.out
  clear S7 HS7 HM7 HC7 hb8 C0
  have htl : (tblOf false s ks s.g s.o).length ≤ 4096 := tblOf_le false s HF.out.2.2.2.1 _ _
  go_upto_region 9 with fail
  go_region_held3 (fun w' => w'.cell? ⟨p, 3, none⟩ = some (.map (some pk)) ∧ w'.cell? ⟨w.heap.size, 3, none⟩ = some (.string s.g) ∧ w'.cell? ⟨w.heap.size, 4, none⟩ = some (.string s.o) ∧ w'.cell? ⟨b11, 0, none⟩ = some (.string s.f) ∧ w'.cell? ⟨b11, 1, none⟩ = some (.int .i64 s.l) ∧ w'.cell? ⟨b11, 2, none⟩ = some (.int .i64 s.e) ∧ w'.cell? ⟨b11, 3, none⟩ = some (.string s.g) ∧ w'.cell? ⟨b11, 4, none⟩ = some (.string s.o) ∧ w'.cell? ⟨b11, 5, none⟩ = some (.string s.v) ∧ w'.cell? ⟨b11, 6, none⟩ = some (.bool s.h))
    (first | exact HH9.out | exact heldP_kept hpt9.cells (by assumption))
    (first
      | (go_at_call 9; refine (put_any pk (tblOf false s ks) s.g s.o s htl _ (HP8.out.tk.later (Below.refl _ _).drew)).mono ?_; rintro e w9 ⟨rfl, htb9, hpt9⟩))
  have T9 : PutTurn w8 w9 pk := hpt9.undrew
  have S9 : Hid (Sit w ag ak av gs ks ss w9) := S8.out.put T9 (by omega)
  have HS9 : Hid (StgAt w9 w.heap.size 0 s) := HS8.out.kept T9.cells
  have HM9 : Hid (StgAt w9 b11 0 s) := HM8.out.kept T9.cells
  have HC9 : Hid (Cfg w9 c ck1 cg1 cs1 (tblOf false s ks) (grpOf gs) (tblOf false s ss)) := HC8.out.put T9 (by omega) (by omega) (by omega)
  have HP9 : Hid (Cfg w9 p pk pg ps (putT (tblOf false s ks) s.g s.o s) (grpOf gs) (tblOf false s ss)) := HP8.out.putK T9 htb9 ngk (fun h => nks h.symm)
  have m1 := HP9.out.tk.lt
  have m2 := HP9.out.gg.lt
  have m3 := HP9.out.ts.lt
  have n1 := HC9.out.tk.lt
  have n2 := HC9.out.gg.lt
  have n3 := HC9.out.ts.lt
  have z9 := S9.out.bel.size
  obtain ⟨x0, x1, x2, x3, x4, x5, x6⟩ := HM9.out
  clear T9 S8 HS8 HM8 HC8 HP8 HH9 htl htb9 hpt9 k1 k2 k3 z7 z8 z78 zp zk zg zs nks ngk ngs
  go_wp2_with fail
  clear x0 x1 x2 x3 x4 x5 x6
  refine (config_any ag ak av cg ck cs gs ks ss false s HF.out.1 HF.out.2.1 HF.out.2.2.1 HF.out.2.2.2.1 HF.out.2.2.2.2 _ S9.out.rg S9.out.rk S9.out.rs).mono ?_
  rintro e w10 ⟨⟨q, qk, qg, qs, rfl, zp, zk, zg, zs, nks, ngk, ngs, C0⟩, hb10⟩
  have S10 : Hid (Sit w ag ak av gs ks ss w10) := S9.out.later hb10
  have HS10 : Hid (StgAt w10 w.heap.size 0 s) := HS9.out.later hb10
  have HM10 : Hid (StgAt w10 b11 0 s) := HM9.out.later hb10
  have HC10 : Hid (Cfg w10 c ck1 cg1 cs1 (tblOf false s ks) (grpOf gs) (tblOf false s ss)) := HC9.out.later hb10
  have HP10 : Hid (Cfg w10 p pk pg ps (putT (tblOf false s ks) s.g s.o s) (grpOf gs) (tblOf false s ss)) := HP9.out.later hb10
  have HQ10 : Hid (Cfg w10 q qk qg qs (tblOf false s ks) (grpOf gs) (tblOf false s ss)) := C0
  have HH11 : Hid (HeldP w.heap.size b11 q 5 qs s w10) := heldP_of HQ10.out.c5 HS10.out HM10.out
  clear S9 HS9 HM9 HC9 HP9 hb10 C0
  have htl : (tblOf false s ss nob s.o).length ≤ 4096 := tblOf_le false s HF.out.2.2.2.2 _ _
  go_upto_region 11 with fail
  go_region_held3 (fun w' => w'.cell? ⟨q, 5, none⟩ = some (.map (some qs)) ∧ w'.cell? ⟨w.heap.size, 3, none⟩ = some (.string s.g) ∧ w'.cell? ⟨w.heap.size, 4, none⟩ = some (.string s.o) ∧ w'.cell? ⟨b11, 0, none⟩ = some (.string s.f) ∧ w'.cell? ⟨b11, 1, none⟩ = some (.int .i64 s.l) ∧ w'.cell? ⟨b11, 2, none⟩ = some (.int .i64 s.e) ∧ w'.cell? ⟨b11, 3, none⟩ = some (.string s.g) ∧ w'.cell? ⟨b11, 4, none⟩ = some (.string s.o) ∧ w'.cell? ⟨b11, 5, none⟩ = some (.string s.v) ∧ w'.cell? ⟨b11, 6, none⟩ = some (.bool s.h))
    (first | exact HH11.out | exact heldP_kept hpt11.cells (by assumption))
    (first
      | (go_at_call 9; refine (put_any qs (tblOf false s ss) nob s.o s htl _ (HQ10.out.ts.later (Below.refl _ _).drew)).mono ?_; rintro e w11 ⟨rfl, htb11, hpt11⟩))
  have T11 : PutTurn w10 w11 qs := hpt11.undrew
  have B11 : Hid (Below w.heap.size w w11) := (S10.out.put T11 (by omega)).bel
  have HM11 : Hid (StgAt w11 b11 0 s) := HM10.out.kept T11.cells
  have HC11 : Hid (Cfg w11 c ck1 cg1 cs1 (tblOf false s ks) (grpOf gs) (tblOf false s ss)) := HC10.out.put T11 (by omega) (by omega) (by omega)
  have HP11 : Hid (Cfg w11 p pk pg ps (putT (tblOf false s ks) s.g s.o s) (grpOf gs) (tblOf false s ss)) := HP10.out.put T11 (by omega) (by omega) (by omega)
  have HQ11 : Hid (Cfg w11 q qk qg qs (tblOf false s ks) (grpOf gs) (putT (tblOf false s ss) nob s.o s)) := HQ10.out.putS T11 htb11 nks ngs
  have LK : Hid (TblLe 4096 (tblOf false s ks) ∧ TblLe 4096 (tblOf false s ss)) := ⟨tblOf_le false s HF.out.2.2.2.1, tblOf_le false s HF.out.2.2.2.2⟩
  have L0 : Hid (TblLe 4097 (tblOf false s ks) ∧ TblLe 4097 (tblOf false s ss)) := ⟨fun G O => Nat.le_succ_of_le (LK.out.1 G O), fun G O => Nat.le_succ_of_le (LK.out.2 G O)⟩
  have LP : Hid (TblLe 4097 (putT (tblOf false s ks) s.g s.o s) ∧ TblLe 4097 (tblOf false s ss)) := ⟨putT_le LK.out.1 _ _ _, L0.out.2⟩
  have LQ : Hid (TblLe 4097 (tblOf false s ks) ∧ TblLe 4097 (putT (tblOf false s ss) nob s.o s)) := ⟨L0.out.1, putT_le LK.out.2 _ _ _⟩
  have R1 : Hid (kp (putT (tblOf false s ks) s.g s.o s) (grpOf gs) (tblOf false s ss) s = (kp (tblOf false s ks) (grpOf gs) (tblOf false s ss) s || !grpOf gs s.g)) := law_kept _ _ _ _
  have R2 : Hid (kp (tblOf false s ks) (grpOf gs) (putT (tblOf false s ss) nob s.o s) s = (kp (tblOf false s ks) (grpOf gs) (tblOf false s ss) s || grpOf gs s.g)) := law_served _ _ _ _
  obtain ⟨y0, y1, y2, y3, y4, y5, y6⟩ := HM11.out
  clear T11 HH11 HS10 HM10 HC10 HP10 HQ10 S10 htl htb11 hpt11 zp zk zg zs nks ngk ngs m1 m2 m3 n1 n2 n3 z9 HF LK
  generalize grpOf gs = f at *
  generalize putT (tblOf false s ks) s.g s.o s = Pk at *
  generalize putT (tblOf false s ss) nob s.o s = Ps at *
  generalize tblOf false s ks = Tk at *
  generalize tblOf false s ss = Ts at *
  go_wp2_with fail
  clear y0 y1 y2 y3 y4 y5 y6
  refine (keeps_kp c ck1 cg1 cs1 Tk f Ts s L0.out.1 L0.out.2 _ HC11.out).mono ?_
  rintro e w12 ⟨rfl, hb12⟩
  have B12 : Hid (Below w.heap.size w w12) := B11.out.trans (hb12.mono B11.out.size)
  have HM12 : Hid (StgAt w12 b11 0 s) := HM11.out.later hb12
  have HP12 : Hid (Cfg w12 p pk pg ps Pk f Ts) := HP11.out.later hb12
  have HQ12 : Hid (Cfg w12 q qk qg qs Tk f Ps) := HQ11.out.later hb12
  obtain ⟨x0, x1, x2, x3, x4, x5, x6⟩ := HM12.out
  clear B11 HM11 HC11 HP11 HQ11 hb12
  cases hbf : kp Tk f Ts s
  · cases hst : f s.g
    · have R1' : Hid (kp Pk f Ts s = true) := by show _ = _; rw [R1.out, hbf, hst]; rfl
      have R2' : Hid (kp Tk f Ps s = false) := by show _ = _; rw [R2.out, hbf, hst]; rfl
      clear hbf R1 R2
      go_wp2_with fail
      clear x0 x1 x2 x3 x4 x5 x6
      refine (keeps_as p pk pg ps Pk f Ts s LP.out true R1'.out _ HP12.out).mono ?_
      rintro e w13 ⟨rfl, hb13⟩
      have B13 : Hid (Below w.heap.size w w13) := B12.out.trans (hb13.mono B12.out.size)
      have HQ13 : Hid (Cfg w13 q qk qg qs Tk f Ps) := HQ12.out.later hb13
      obtain ⟨x0, x1, x2, x3, x4, x5, x6⟩ := HM12.out.later hb13
      clear B12 HM12 HP12 HQ12 hb13
      go_wp2_with fail
      clear x0 x1 x2 x3 x4 x5 x6
      refine (keeps_as q qk qg qs Tk f Ps s LQ.out false R2'.out _ HQ13.out).mono ?_
      rintro e w14 ⟨rfl, hb14⟩
      have B14 : Hid (Below w.heap.size w w14) := B13.out.trans (hb14.mono B13.out.size)
      clear B13 HQ13 hb14
      go_wp2_with fail
      go_ret
      exact ⟨rfl, B14.out⟩
    · have R1' : Hid (kp Pk f Ts s = false) := by show _ = _; rw [R1.out, hbf, hst]; rfl
      have R2' : Hid (kp Tk f Ps s = true) := by show _ = _; rw [R2.out, hbf, hst]; rfl
      clear hbf R1 R2
      go_wp2_with fail
      clear x0 x1 x2 x3 x4 x5 x6
      refine (keeps_as p pk pg ps Pk f Ts s LP.out false R1'.out _ HP12.out).mono ?_
      rintro e w13 ⟨rfl, hb13⟩
      have B13 : Hid (Below w.heap.size w w13) := B12.out.trans (hb13.mono B12.out.size)
      have HQ13 : Hid (Cfg w13 q qk qg qs Tk f Ps) := HQ12.out.later hb13
      obtain ⟨x0, x1, x2, x3, x4, x5, x6⟩ := HM12.out.later hb13
      clear B12 HM12 HP12 HQ12 hb13
      go_wp2_with fail
      clear x0 x1 x2 x3 x4 x5 x6
      refine (keeps_as q qk qg qs Tk f Ps s LQ.out true R2'.out _ HQ13.out).mono ?_
      rintro e w14 ⟨rfl, hb14⟩
      have B14 : Hid (Below w.heap.size w w14) := B13.out.trans (hb14.mono B13.out.size)
      clear B13 HQ13 hb14
      go_wp2_with fail
      go_ret
      exact ⟨rfl, B14.out⟩
  · cases hst : f s.g
    · have R1' : Hid (kp Pk f Ts s = true) := by show _ = _; rw [R1.out, hbf, hst]; rfl
      have R2' : Hid (kp Tk f Ps s = true) := by show _ = _; rw [R2.out, hbf, hst]; rfl
      clear hbf R1 R2
      go_wp2_with fail
      clear x0 x1 x2 x3 x4 x5 x6
      refine (keeps_as p pk pg ps Pk f Ts s LP.out true R1'.out _ HP12.out).mono ?_
      rintro e w13 ⟨rfl, hb13⟩
      have B13 : Hid (Below w.heap.size w w13) := B12.out.trans (hb13.mono B12.out.size)
      have HQ13 : Hid (Cfg w13 q qk qg qs Tk f Ps) := HQ12.out.later hb13
      obtain ⟨x0, x1, x2, x3, x4, x5, x6⟩ := HM12.out.later hb13
      clear B12 HM12 HP12 HQ12 hb13
      go_wp2_with fail
      clear x0 x1 x2 x3 x4 x5 x6
      refine (keeps_as q qk qg qs Tk f Ps s LQ.out true R2'.out _ HQ13.out).mono ?_
      rintro e w14 ⟨rfl, hb14⟩
      have B14 : Hid (Below w.heap.size w w14) := B13.out.trans (hb14.mono B13.out.size)
      clear B13 HQ13 hb14
      go_wp2_with fail
      go_ret
      exact ⟨rfl, B14.out⟩
    · have R1' : Hid (kp Pk f Ts s = true) := by show _ = _; rw [R1.out, hbf, hst]; rfl
      have R2' : Hid (kp Tk f Ps s = true) := by show _ = _; rw [R2.out, hbf, hst]; rfl
      clear hbf R1 R2
      go_wp2_with fail
      clear x0 x1 x2 x3 x4 x5 x6
      refine (keeps_as p pk pg ps Pk f Ts s LP.out true R1'.out _ HP12.out).mono ?_
      rintro e w13 ⟨rfl, hb13⟩
      have B13 : Hid (Below w.heap.size w w13) := B12.out.trans (hb13.mono B12.out.size)
      have HQ13 : Hid (Cfg w13 q qk qg qs Tk f Ps) := HQ12.out.later hb13
      obtain ⟨x0, x1, x2, x3, x4, x5, x6⟩ := HM12.out.later hb13
      clear B12 HM12 HP12 HQ12 hb13
      go_wp2_with fail
      clear x0 x1 x2 x3 x4 x5 x6
      refine (keeps_as q qk qg qs Tk f Ps s LQ.out true R2'.out _ HQ13.out).mono ?_
      rintro e w14 ⟨rfl, hb14⟩
      have B14 : Hid (Below w.heap.size w w14) := B13.out.trans (hb14.mono B13.out.size)
      clear B13 HQ13 hb14
      go_wp2_with fail
      go_ret
      exact ⟨rfl, B14.out⟩

end Go.Proofs.Qxb6630397a
