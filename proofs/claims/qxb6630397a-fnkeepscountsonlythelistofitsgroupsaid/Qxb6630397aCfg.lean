import Derived.Test.Qxb6630397aKpt
namespace Go.Proofs.Qxb6630397a
open Go.RowKit
open Go.ChangeMaps (setBlock)

/-- the map in block B reads as this answer -/
def GrpIs (w : World) (B : Nat) (f : ByteArray → Bool) : Prop :=
  ∃ es clk l, w.heap[B]? = some (.map es clk) ∧ GrpEnts es l ∧ ∀ N, valG N l = f N
theorem GrpIs.lt {w : World} {B : Nat} {f : ByteArray → Bool} (h : GrpIs w B f) : B < w.heap.size := by
  obtain ⟨es, clk, l, h1, _⟩ := h
  exact (Array.getElem?_eq_some_iff.1 h1).1
theorem grp_made (w : World) : GrpIs (w.alloc (.map #[] 0)) w.heap.size (fun _ => false) :=
  ⟨#[], 0, [], heap_alloc_new w _, rfl, fun _ => rfl⟩
theorem GrpIs.later {w w' : World} {B : Nat} {f : ByteArray → Bool} (h : GrpIs w B f) (hb : Below w.heap.size w w') : GrpIs w' B f := by
  have hlt := h.lt
  obtain ⟨es, clk, l, h1, h2, h3⟩ := h
  exact ⟨es, clk, l, by rw [hb.block B hlt]; exact h1, h2, h3⟩
theorem GrpIs.turned {w w' : World} {B B' : Nat} {f : ByteArray → Bool} (h : GrpIs w B f) (ht : MapTurn w w' B') (hne : B ≠ B') : GrpIs w' B f := by
  have hlt := h.lt
  obtain ⟨es, clk, l, h1, h2, h3⟩ := h
  exact ⟨es, clk, l, by rw [ht.grown.block B hlt (by simpa using hne)]; exact h1, h2, h3⟩
/-- a store into the answer -/
def updG (f : ByteArray → Bool) (N : ByteArray) (b : Bool) : ByteArray → Bool := fun N' => if N' = N then b else f N'
theorem grp_update {w : World} {B : Nat} {f : ByteArray → Bool} (h : GrpIs w B f) (N : ByteArray) (b : Bool) :
    ∃ w', (Instr.mapUpdate 36 (.map (some B)) (.string N) (.bool b)).run Try.prog w = .ok () w' ∧ GrpIs w' B (updG f N b) ∧ MapTurn w w' B := by
  obtain ⟨es, clk, l, h1, h2, h3⟩ := h
  obtain ⟨es', clk', hr, he⟩ := run_update36 h1 h2 N b
  refine ⟨_, hr, ⟨es', clk', setG N b l, (heap_setBlock h1).1, he, fun N' => ?_⟩, ⟨cells_setMap h1 _, ⟨rfl, rfl, rfl, by simp [setBlock], fun k _ hne => (heap_setBlock h1).2 k (fun e => hne (by rw [e]))⟩, by simp [setBlock], fun a => ?_⟩⟩
  · rw [valG_set, h3]; rfl
  · by_cases hB : a.block = B
    · exact .inr hB
    · exact .inl (World.frozen?_of_block ((heap_setBlock h1).2 a.block hB))
theorem grp_lookup {w : World} {B : Nat} {f : ByteArray → Bool} (h : GrpIs w B f) (N : ByteArray) :
    (Instr.lookup 36 (.map (some B)) (.string N) false).run Try.prog w = .ok (.bool (f N)) w := by
  obtain ⟨es, clk, l, h1, h2, h3⟩ := h
  rw [run_lookup36 h1 h2, h3]
/-- the answer that a list of groups stands for -/
def grpOf (gs : List Grp) : ByteArray → Bool := gs.foldl (fun f G => updG f G.n G.on) (fun _ => false)
theorem grpOf_snoc (gs : List Grp) (G : Grp) : grpOf (gs ++ [G]) = updG (grpOf gs) G.n G.on := by simp [grpOf]

/-- a config, as Keeps reads it -/
structure Cfg (w : World) (bc bk bg bs : Nat) (Tk : Tbl) (f : ByteArray → Bool) (Ts : Tbl) : Prop where
  c3 : w.cell? ⟨bc, 3, none⟩ = some (.map (some bk))
  c4 : w.cell? ⟨bc, 4, none⟩ = some (.map (some bg))
  c5 : w.cell? ⟨bc, 5, none⟩ = some (.map (some bs))
  tk : TblIs w bk Tk
  gg : GrpIs w bg f
  ts : TblIs w bs Ts
theorem Cfg.later {w w' : World} {bc bk bg bs : Nat} {Tk : Tbl} {f : ByteArray → Bool} {Ts : Tbl} (h : Cfg w bc bk bg bs Tk f Ts) (hb : Below w.heap.size w w') : Cfg w' bc bk bg bs Tk f Ts :=
  ⟨cell_later hb h.c3, cell_later hb h.c4, cell_later hb h.c5, h.tk.later hb, h.gg.later hb, h.ts.later hb⟩

/-- what zzConfig hands back -/
def CO (N : Nat) (Tk : Tbl) (f : ByteArray → Bool) (Ts : Tbl) (e : Ending) (w' : World) : Prop :=
  ∃ bc bk bg bs, e = .returned (.pointer (some ⟨bc, 0, none⟩)) ∧ N ≤ bc ∧ N ≤ bk ∧ N ≤ bg ∧ N ≤ bs ∧ bk ≠ bs ∧ bg ≠ bk ∧ bg ≠ bs ∧ Cfg w' bc bk bg bs Tk f Ts

abbrev HeldX (bx : Nat) (x : Stg) (w' : World) : Prop :=
  w'.cell? ⟨bx, 0, none⟩ = some (.string x.f) ∧ w'.cell? ⟨bx, 1, none⟩ = some (.int .i64 x.l) ∧ w'.cell? ⟨bx, 2, none⟩ = some (.int .i64 x.e) ∧ w'.cell? ⟨bx, 3, none⟩ = some (.string x.g) ∧
  w'.cell? ⟨bx, 4, none⟩ = some (.string x.o) ∧ w'.cell? ⟨bx, 5, none⟩ = some (.string x.v) ∧ w'.cell? ⟨bx, 6, none⟩ = some (.bool x.h)
theorem heldX_kept {bx : Nat} {x : Stg} {w w' : World} (hk : CellsKept w w') (h : HeldX bx x w) : HeldX bx x w' :=
  ⟨hk _ _ h.1, hk _ _ h.2.1, hk _ _ h.2.2.1, hk _ _ h.2.2.2.1, hk _ _ h.2.2.2.2.1, hk _ _ h.2.2.2.2.2.1, hk _ _ h.2.2.2.2.2.2⟩
theorem heldX_at {bx : Nat} {x : Stg} {w : World} (h : StgAt w bx 0 x) : HeldX bx x w := by
  obtain ⟨x0, x1, x2, x3, x4, x5, x6⟩ := h
  exact ⟨x0, x1, x2, x3, x4, x5, x6⟩

set_option maxRecDepth 20000 in
set_option maxHeartbeats 4000000 in
theorem config_any (ag ak av : Option Addr) (cg ck cs : Nat) (gs : List Grp) (ks ss : List Ent) (drop : Bool) (x : Stg) (hg : gs.length ≤ 4096) (hk0 : ks.length ≤ 4096) (hs : ss.length ≤ 4096)
    (hks : ∀ E ∈ ks, E.ss.length ≤ 4096) (hss : ∀ E ∈ ss, E.ss.length ≤ 4096) (w : World) (rg : GRow w ag gs) (rk : ERow w ak ks) (rs : ERow w av ss) :
    Calls Try.prog 8 #[.slice ag gs.length cg, .slice ak ks.length ck, .slice av ss.length cs, .bool drop, sv x] w fun e w' =>
      CO w.heap.size (tblOf drop x ks) (grpOf gs) (tblOf drop x ss) e w' ∧ Below w.heap.size w w' := by
  have HRG : Hid (GRow w ag gs) := rg
  have HRK : Hid (ERow w ak ks) := rk
  have HRS : Hid (ERow w av ss) := rs
  have HKS : Hid (∀ E ∈ ks, E.ss.length ≤ 4096) := hks
  have HSS : Hid (∀ E ∈ ss, E.ss.length ≤ 4096) := hss
  have hmm := make36 gs.length (w.alloc (obM x))
  have hal : Below w.heap.size w ((w.alloc (obM x)).alloc (.map #[] 0)) := ((Below.refl _ _).alloc (Nat.le_refl _) _).alloc (by simp) _
  have HT0 : Hid (GrpIs ((w.alloc (obM x)).alloc (.map #[] 0)) (w.heap.size + 1) (fun _ => false)) := by
    show GrpIs _ _ _
    have := grp_made (w.alloc (obM x))
    simpa using this
  have hx0 : StgAt ((w.alloc (obM x)).alloc (.map #[] 0)) w.heap.size 0 x := by unfold StgAt; go_simp
  have HX0 : Hid (StgAt ((w.alloc (obM x)).alloc (.map #[] 0)) w.heap.size 0 x) := hx0
  clear rg rk rs hks hss hx0
  generalize hn : gs.length = n at *
  have HN : Hid (gs.length = n) := hn
  clear hn
  go_enter Try.func8, Try.ntmps8
  go_wp2_with fail
  go_loopw [12] (fun i wr => ∃ (k : Nat), k ≤ n ∧ i = .int .i64 k ∧ GrpIs wr (w.heap.size + 1) (grpOf (gs.take k)) ∧ StgAt wr w.heap.size 0 x ∧ Below w.heap.size w wr) (fun i _ => n - (intOf i).toNat)
  case atStart => exact ⟨0, by omega, rfl, HT0.out, HX0.out, hal⟩
  case round =>
    obtain ⟨k, hk, rfl, htb, hxa, hb⟩ := hrel
    by_cases hlt : k < n
    · have hki : (k : Int) < (n : Int) := by omega
      obtain ⟨b, o, rfl, hE⟩ := HRG.out (by have := HN.out; omega)
      obtain ⟨G, hGk⟩ : ∃ G, gs[k]? = some G := ⟨gs[k]'(by have := HN.out; omega), by simp⟩
      obtain ⟨e0, e1⟩ := (hE k G hGk).later hb
      have HXA : Hid (StgAt wr w.heap.size 0 x) := hxa
      have HTS : Hid (grpOf (gs.take (k + 1)) = updG (grpOf (gs.take k)) G.n G.on) := by
        show _ = _
        rw [← grpOf_snoc, List.take_add_one, hGk]; rfl
      obtain ⟨w3, hup, htb3, hup2⟩ := grp_update (htb.later (Below.refl _ _).drew) G.n G.on
      have HTB3 : Hid (GrpIs w3 (w.heap.size + 1) (updG (grpOf (gs.take k)) G.n G.on)) := htb3
      have HUP2 : Hid (MapTurn wr.drew w3 (w.heap.size + 1)) := hup2
      clear hE hGk htb hxa htb3 hup2
      go_upto_region 5 with fail
      go_region
      have hb3 : Below w.heap.size w w3 := hb.drew.trans (HUP2.out.below (by omega))
      have hx3 : StgAt w3 w.heap.size 0 x := (HXA.out.later (Below.refl _ _).drew).kept HUP2.out.cells
      go_wp2_with fail
      exact ⟨⟨k + 1, by omega, by go_num, by rw [HTS.out]; exact HTB3.out, hx3, hb3⟩, by simp [intOf]; omega⟩
    · have hlt0 : ¬ (k : Int) < (n : Int) := by omega
      have HTB : Hid (GrpIs wr (w.heap.size + 1) (grpOf gs)) := by
        show GrpIs _ _ _
        rwa [List.take_of_length_le (by have := HN.out; omega)] at htb
      have HH : Hid (HeldX w.heap.size x wr) := heldX_at hxa
      clear htb hxa
      go_upto_region 6 with fail
      go_region_held3 (fun w' => w'.cell? ⟨w.heap.size, 0, none⟩ = some (.string x.f) ∧ w'.cell? ⟨w.heap.size, 1, none⟩ = some (.int .i64 x.l) ∧ w'.cell? ⟨w.heap.size, 2, none⟩ = some (.int .i64 x.e) ∧ w'.cell? ⟨w.heap.size, 3, none⟩ = some (.string x.g) ∧ w'.cell? ⟨w.heap.size, 4, none⟩ = some (.string x.o) ∧ w'.cell? ⟨w.heap.size, 5, none⟩ = some (.string x.v) ∧ w'.cell? ⟨w.heap.size, 6, none⟩ = some (.bool x.h))
        (first | exact HH.out | exact heldX_kept (cellsKept_below hb3) (by assumption) | exact heldX_kept (cellsKept_below hb2) (by assumption) | exact heldX_kept (cellsKept_below ((Below.refl _ _).alloc (Nat.le_refl _) _)) (by assumption))
        (first
          | (have hq2 := hb2; go_at_call 16; refine (kept_any av cs ss drop x hs HSS.out _ (((HRS.out.later hb).later (Below.refl _ _).drew).later hq2)).mono ?_; rintro e w3 ⟨rfl, hts, hb3⟩)
          | (go_at_call 16; refine (kept_any ak ck ks drop x hk0 HKS.out _ ((HRK.out.later hb).later (Below.refl _ _).drew)).mono ?_; rintro e w2 ⟨rfl, htk, hb2⟩))
      have z0 := hb.size
      have z1 : wr.heap.size ≤ w2.heap.size := hb2.size
      have z2 : w2.heap.size ≤ w3.heap.size := hb3.size
      have hbl := HTB.out.lt
      have hkl : wr.heap.size + 1 < w2.heap.size := htk.lt
      have b2 : Below w.heap.size w w2 := hb.drew.trans (hb2.mono (by simpa using z0))
      have b3 : Below w.heap.size w w3 := b2.trans (hb3.mono (by omega))
      have g3 : GrpIs w3 (w.heap.size + 1) (grpOf gs) := ((HTB.out.later (Below.refl _ _).drew).later hb2).later hb3
      have k3 : TblIs w3 (wr.heap.size + 1) (tblOf drop x ks) := htk.later hb3
      go_wp2_with fail
      go_ret
      refine ⟨⟨w3.heap.size, wr.heap.size + 1, w.heap.size + 1, w2.heap.size + 1, rfl, by omega, by omega, by omega, by omega, by omega, by omega, by omega, ?_⟩, b3.alloc (by omega) _⟩
      exact ⟨by go_simp, by go_simp, by go_simp, k3.later ((Below.refl _ _).alloc (Nat.le_refl _) _), g3.later ((Below.refl _ _).alloc (Nat.le_refl _) _), hts.later ((Below.refl _ _).alloc (Nat.le_refl _) _)⟩

end Go.Proofs.Qxb6630397a
