import Derived.Test.Qxb6630397aMap
import Derived.Deep.QuietTactic
import Derived.BigQuiet
import Derived.Deep.RegionHeld3
import Derived.Deep.DeepCutAuto
import Derived.Deep.LoopGhost
namespace Go.Proofs.Qxb6630397a
open Go.RowKit

/-- a setting -/
structure Stg where
  f : ByteArray
  l : Int
  e : Int
  g : ByteArray
  o : ByteArray
  v : ByteArray
  h : Bool
/-- its value -/
abbrev sv (s : Stg) : Value := .agg #[.string s.f, .int .i64 s.l, .int .i64 s.e, .string s.g, .string s.o, .string s.v, .bool s.h]
/-- its strings are strings -/
def Stg.ok (s : Stg) : Prop := s.f.size ≤ maxLen ∧ s.g.size ≤ maxLen ∧ s.o.size ≤ maxLen ∧ s.v.size ≤ maxLen

set_option maxHeartbeats 400000 in
theorem setting_any (s : Stg) (w : World) : Calls Try.prog 7 #[sv s] w fun e w' => e = .returned (sv s) ∧ Below w.heap.size w w' := by
  go_enter Try.func7, Try.ntmps7
  go_wp2
  exact bodyPost_ret (v := sv s) (by simp [results, Try.results7, go_sem]) rfl ⟨rfl, ((Below.refl _ _).alloc (Nat.le_refl _) _).alloc (by simp) _⟩

/-- a sum within its bound, and whether it was added -/
def TB (e : Ending) : Prop := ∃ (t : Int) (b : Bool), e = .returned (.tuple #[.int .i64 t, .bool b]) ∧ 0 ≤ t ∧ t ≤ 1048576

set_option maxHeartbeats 400000 in
theorem add_any (t n : Int) (h0 : 0 ≤ t) (h1 : t ≤ 1048576) (hn : 0 ≤ n) (hn1 : n ≤ 9223372036854775807) (w : World) :
    Calls Try.prog 14 #[.int .i64 t, .int .i64 n] w fun e w' => TB e ∧ w = w' := by
  have c0 : ¬ n < 0 := by omega
  by_cases c1 : 1048576 < n
  · go_enter Try.func14, Try.ntmps14
    go_wp2
    go_ret2
    exact ⟨⟨t, false, rfl, h0, h1⟩, rfl⟩
  · by_cases c2 : 1048576 - n < t
    · go_enter Try.func14, Try.ntmps14
      go_wp2
      go_ret2
      exact ⟨⟨t, false, rfl, h0, h1⟩, rfl⟩
    · go_enter Try.func14, Try.ntmps14
      go_wp2
      go_ret2
      exact ⟨⟨t + n, true, rfl, by omega, by omega⟩, rfl⟩

set_option maxHeartbeats 1000000 in
theorem addSetting_any (t : Int) (s : Stg) (h0 : 0 ≤ t) (h1 : t ≤ 1048576) (hs : s.ok) (w : World) :
    Calls Try.prog 13 #[.int .i64 t, sv s] w fun e w' => TB e ∧ Below w.heap.size w w' := by
  obtain ⟨hf, hg, ho, hv⟩ := hs
  unfold maxLen at hf hg ho hv
  have hal : ∀ o, Below w.heap.size w (w.alloc o) := fun o => (Below.refl _ _).alloc (Nat.le_refl _) _
  go_enter Try.func13, Try.ntmps13
  go_wp2_with fail
  refine (add_any t 64 h0 h1 (by omega) (by omega) _).mono ?_
  rintro e w' ⟨⟨t1, b1, rfl, p0, p1⟩, rfl⟩
  cases b1
  · go_wp2_with fail
    go_ret2
    exact ⟨⟨_, _, rfl, p0, p1⟩, hal _⟩
  go_wp2_with fail
  refine (add_any t1 s.f.size p0 p1 (by omega) (by omega) _).mono ?_
  rintro e w' ⟨⟨t2, b2, rfl, p2, p3⟩, rfl⟩
  cases b2
  · go_wp2_with fail
    go_ret2
    exact ⟨⟨_, _, rfl, p2, p3⟩, hal _⟩
  go_wp2_with fail
  refine (add_any t2 s.g.size p2 p3 (by omega) (by omega) _).mono ?_
  rintro e w' ⟨⟨t3, b3, rfl, p4, p5⟩, rfl⟩
  cases b3
  · go_wp2_with fail
    go_ret2
    exact ⟨⟨_, _, rfl, p4, p5⟩, hal _⟩
  go_wp2_with fail
  refine (add_any t3 s.o.size p4 p5 (by omega) (by omega) _).mono ?_
  rintro e w' ⟨⟨t4, b4, rfl, p6, p7⟩, rfl⟩
  cases b4
  · go_wp2_with fail
    go_ret2
    exact ⟨⟨_, _, rfl, p6, p7⟩, hal _⟩
  go_wp2_with fail
  refine (add_any t4 s.v.size p6 p7 (by omega) (by omega) _).mono ?_
  rintro e w' ⟨⟨t5, b5, rfl, p8, p9⟩, rfl⟩
  cases b5
  · go_wp2_with fail
    go_ret2
    exact ⟨⟨_, _, rfl, p8, p9⟩, hal _⟩
  go_wp2_with fail
  go_ret2
  exact ⟨⟨_, _, rfl, p8, p9⟩, hal _⟩

/-! ### The arguments in memory -/
def StgAt (w : World) (b p : Nat) (s : Stg) : Prop :=
  w.cell? ⟨b, p, none⟩ = some (.string s.f) ∧ w.cell? ⟨b, p + 1, none⟩ = some (.int .i64 s.l) ∧ w.cell? ⟨b, p + 2, none⟩ = some (.int .i64 s.e) ∧ w.cell? ⟨b, p + 3, none⟩ = some (.string s.g) ∧
  w.cell? ⟨b, p + 4, none⟩ = some (.string s.o) ∧ w.cell? ⟨b, p + 5, none⟩ = some (.string s.v) ∧ w.cell? ⟨b, p + 6, none⟩ = some (.bool s.h)
theorem StgAt.later {w w' : World} {b p : Nat} {s : Stg} (h : StgAt w b p s) (hb : Below w.heap.size w w') : StgAt w' b p s := by
  obtain ⟨h0, h1, h2, h3, h4, h5, h6⟩ := h
  exact ⟨cell_later hb h0, cell_later hb h1, cell_later hb h2, cell_later hb h3, cell_later hb h4, cell_later hb h5, cell_later hb h6⟩

/-- a slice of settings -/
def SRow (w : World) (a : Option Addr) (ss : List Stg) : Prop :=
  0 < ss.length → ∃ b o, a = some ⟨b, o, none⟩ ∧ ∀ j s, ss[j]? = some s → StgAt w b (o + j * 7) s
theorem SRow.later {w w' : World} {a : Option Addr} {ss : List Stg} (h : SRow w a ss) (hb : Below w.heap.size w w') : SRow w' a ss := fun h0 => by
  obtain ⟨b, o, h1, h2⟩ := h h0
  exact ⟨b, o, h1, fun j s hj => (h2 j s hj).later hb⟩

/-- an entry: its key, its slice, and what that holds -/
structure Ent where
  g : ByteArray
  o : ByteArray
  a : Option Addr
  c : Nat
  ss : List Stg
def EntAt (w : World) (b p : Nat) (E : Ent) : Prop :=
  w.cell? ⟨b, p, none⟩ = some (.string E.g) ∧ w.cell? ⟨b, p + 1, none⟩ = some (.string E.o) ∧ w.cell? ⟨b, p + 2, none⟩ = some (.slice E.a E.ss.length E.c) ∧ SRow w E.a E.ss
theorem EntAt.later {w w' : World} {b p : Nat} {E : Ent} (h : EntAt w b p E) (hb : Below w.heap.size w w') : EntAt w' b p E := by
  obtain ⟨h0, h1, h2, h3⟩ := h
  exact ⟨cell_later hb h0, cell_later hb h1, cell_later hb h2, h3.later hb⟩
/-- its lengths are lengths -/
def Ent.ok (E : Ent) : Prop := E.g.size ≤ maxLen ∧ E.o.size ≤ maxLen ∧ E.ss.length ≤ maxLen ∧ ∀ s ∈ E.ss, s.ok
def ERow (w : World) (a : Option Addr) (es : List Ent) : Prop :=
  0 < es.length → ∃ b o, a = some ⟨b, o, none⟩ ∧ ∀ j E, es[j]? = some E → EntAt w b (o + j * 3) E
theorem ERow.later {w w' : World} {a : Option Addr} {es : List Ent} (h : ERow w a es) (hb : Below w.heap.size w w') : ERow w' a es := fun h0 => by
  obtain ⟨b, o, h1, h2⟩ := h h0
  exact ⟨b, o, h1, fun j E hj => (h2 j E hj).later hb⟩

/-- a group -/
structure Grp where
  n : ByteArray
  on : Bool
def GrpAt (w : World) (b p : Nat) (G : Grp) : Prop := w.cell? ⟨b, p, none⟩ = some (.string G.n) ∧ w.cell? ⟨b, p + 1, none⟩ = some (.bool G.on)
theorem GrpAt.later {w w' : World} {b p : Nat} {G : Grp} (h : GrpAt w b p G) (hb : Below w.heap.size w w') : GrpAt w' b p G := ⟨cell_later hb h.1, cell_later hb h.2⟩
def GRow (w : World) (a : Option Addr) (gs : List Grp) : Prop :=
  0 < gs.length → ∃ b o, a = some ⟨b, o, none⟩ ∧ ∀ j G, gs[j]? = some G → GrpAt w b (o + j * 2) G
theorem GRow.later {w w' : World} {a : Option Addr} {gs : List Grp} (h : GRow w a gs) (hb : Below w.heap.size w w') : GRow w' a gs := fun h0 => by
  obtain ⟨b, o, h1, h2⟩ := h h0
  exact ⟨b, o, h1, fun j G hj => (h2 j G hj).later hb⟩

end Go.Proofs.Qxb6630397a
