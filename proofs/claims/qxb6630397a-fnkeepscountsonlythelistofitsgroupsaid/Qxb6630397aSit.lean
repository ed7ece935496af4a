import Derived.Test.Qxb6630397aPln
import Derived.Test.Qxb6630397aSvd
namespace Go.Proofs.Qxb6630397a
open Go.RowKit

theorem EntAt.kept {w w' : World} (hk : CellsKept w w') {b p : Nat} {E : Ent} (h : EntAt w b p E) : EntAt w' b p E := by
  obtain ⟨h0, h1, h2, h3⟩ := h
  exact ⟨hk _ _ h0, hk _ _ h1, hk _ _ h2, h3.kept hk⟩
theorem ERow.kept {w w' : World} (hk : CellsKept w w') {a : Option Addr} {es : List Ent} (h : ERow w a es) : ERow w' a es := fun h0 => by
  obtain ⟨b, o, h1, h2⟩ := h h0
  exact ⟨b, o, h1, fun j s hj => (h2 j s hj).kept hk⟩
theorem GRow.kept {w w' : World} (hk : CellsKept w w') {a : Option Addr} {gs : List Grp} (h : GRow w a gs) : GRow w' a gs := fun h0 => by
  obtain ⟨b, o, h1, h2⟩ := h h0
  exact ⟨b, o, h1, fun j s hj => ⟨hk _ _ (h2 j s hj).1, hk _ _ (h2 j s hj).2⟩⟩

/-- the arguments, as a world in the middle of the law reads them -/
structure Sit (w0 : World) (ag ak av : Option Addr) (gs : List Grp) (ks ss : List Ent) (wi : World) : Prop where
  rg : GRow wi ag gs
  rk : ERow wi ak ks
  rs : ERow wi av ss
  bel : Below w0.heap.size w0 wi
theorem Sit.later {w0 : World} {ag ak av : Option Addr} {gs : List Grp} {ks ss : List Ent} {wi wj : World} (h : Sit w0 ag ak av gs ks ss wi) (hb : Below wi.heap.size wi wj) : Sit w0 ag ak av gs ks ss wj :=
  ⟨h.rg.later hb, h.rk.later hb, h.rs.later hb, h.bel.trans (hb.mono h.bel.size)⟩
theorem Sit.put {w0 : World} {ag ak av : Option Addr} {gs : List Grp} {ks ss : List Ent} {wi wj : World} {B : Nat} (h : Sit w0 ag ak av gs ks ss wi) (ht : PutTurn wi wj B) (hB : w0.heap.size ≤ B) : Sit w0 ag ak av gs ks ss wj :=
  ⟨h.rg.kept ht.cells, h.rk.kept ht.cells, h.rs.kept ht.cells, h.bel.trans (ht.below _ hB h.bel.size)⟩

/-- what a region that puts may lean on -/
abbrev HeldP (bs b11 bp q bk : Nat) (s : Stg) (w' : World) : Prop :=
  w'.cell? ⟨bp, q, none⟩ = some (.map (some bk)) ∧ w'.cell? ⟨bs, 3, none⟩ = some (.string s.g) ∧ w'.cell? ⟨bs, 4, none⟩ = some (.string s.o) ∧
  w'.cell? ⟨b11, 0, none⟩ = some (.string s.f) ∧ w'.cell? ⟨b11, 1, none⟩ = some (.int .i64 s.l) ∧ w'.cell? ⟨b11, 2, none⟩ = some (.int .i64 s.e) ∧ w'.cell? ⟨b11, 3, none⟩ = some (.string s.g) ∧
  w'.cell? ⟨b11, 4, none⟩ = some (.string s.o) ∧ w'.cell? ⟨b11, 5, none⟩ = some (.string s.v) ∧ w'.cell? ⟨b11, 6, none⟩ = some (.bool s.h)
theorem heldP_kept {bs b11 bp q bk : Nat} {s : Stg} {w w' : World} (hk : CellsKept w w') (h : HeldP bs b11 bp q bk s w) : HeldP bs b11 bp q bk s w' :=
  ⟨hk _ _ h.1, hk _ _ h.2.1, hk _ _ h.2.2.1, hk _ _ h.2.2.2.1, hk _ _ h.2.2.2.2.1, hk _ _ h.2.2.2.2.2.1, hk _ _ h.2.2.2.2.2.2.1, hk _ _ h.2.2.2.2.2.2.2.1, hk _ _ h.2.2.2.2.2.2.2.2.1, hk _ _ h.2.2.2.2.2.2.2.2.2⟩
theorem heldP_of {bs b11 bp q bk : Nat} {s : Stg} {w : World} (h0 : w.cell? ⟨bp, q, none⟩ = some (.map (some bk))) (h1 : StgAt w bs 0 s) (h2 : StgAt w b11 0 s) : HeldP bs b11 bp q bk s w := by
  obtain ⟨_, _, _, x3, x4, _, _⟩ := h1
  obtain ⟨y0, y1, y2, y3, y4, y5, y6⟩ := h2
  exact ⟨h0, x3, x4, y0, y1, y2, y3, y4, y5, y6⟩

theorem PutTurn.undrew {w w' : World} {B : Nat} (h : PutTurn w.drew w' B) : PutTurn w w' B :=
  ⟨fun a v hc => h.cells a v hc, h.size, h.block, fun N h1 h2 => (Below.refl _ _).drew.trans (h.below N h1 h2)⟩
theorem neq27 (a b : Stg) (w : World) : (binOp .neq 27 (sv a) (sv b)).run Try.prog w = .ok (.bool (!sEq a b)) w := by
  go_simp
  simp only [tl_eq]
  unfold sEq
  by_cases h1 : a.f = b.f
  · by_cases h2 : a.l = b.l
    · by_cases h3 : a.e = b.e
      · by_cases h4 : a.g = b.g
        · by_cases h5 : a.o = b.o
          · by_cases h6 : a.v = b.v
            · by_cases h7 : a.h = b.h <;> simp [h1, h2, h3, h4, h5, h6, h7]
            · simp [h1, h2, h3, h4, h5, h6]
          · simp [h1, h2, h3, h4, h5]
        · simp [h1, h2, h3, h4]
      · simp [h1, h2, h3]
    · simp [h1, h2]
  · simp [h1]

/-- Keeps, by its plain name -/
theorem keeps_kp (bc bk bg bs : Nat) (Tk : Tbl) (f : ByteArray → Bool) (Ts : Tbl) (x : Stg) (hk : TblLe 4097 Tk) (hs : TblLe 4097 Ts) (w : World) (h : Cfg w bc bk bg bs Tk f Ts) :
    Calls Try.prog 10 #[.pointer (some ⟨bc, 0, none⟩), sv x] w fun e w' => e = .returned (.bool (kp Tk f Ts x)) ∧ Below w.heap.size w w' :=
  keeps_any bc bk bg bs Tk f Ts x (Nat.le_trans (pick_le hk hs f x) (by omega)) w h
theorem keeps_as (bc bk bg bs : Nat) (Tk : Tbl) (f : ByteArray → Bool) (Ts : Tbl) (x : Stg) (hk : TblLe 4097 Tk ∧ TblLe 4097 Ts) (b : Bool) (hkp : kp Tk f Ts x = b) (w : World) (h : Cfg w bc bk bg bs Tk f Ts) :
    Calls Try.prog 10 #[.pointer (some ⟨bc, 0, none⟩), sv x] w fun e w' => e = .returned (.bool b) ∧ Below w.heap.size w w' := by
  subst hkp
  exact keeps_kp bc bk bg bs Tk f Ts x hk.1 hk.2 w h

end Go.Proofs.Qxb6630397a
