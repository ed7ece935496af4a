import Derived.Test.Qxb6630445aRen
import Derived.Deep.RegionWith
import Derived.Deep.DeepCutAuto
import Derived.Deep.QuietTactic
import Derived.BigQuiet
namespace Go.Proofs.Qxb6630445a
open Go.RowKit

theorem read_place {b m : Nat} {neg : Bool} {p : Int} (h : Ieee.double.read b = .number neg m p) : ∃ s : Nat, p = (s : Int) - 1074 := by
  unfold Ieee.Format.read at h
  simp only [d_sign, d_binade, d_inf, d_least] at h
  split at h
  · injection h with _ _ e; exact ⟨0, by omega⟩
  · split at h
    · injection h with _ _ e; exact ⟨b % 2 ^ 63 / 2 ^ 52 - 1, by omega⟩
    · split at h <;> cases h

/-- a jitter that the program lets by -/
theorem jitter_ok (j : Nat) (h0 : (FloatKind.f64.format.order j 0 == some .gt || FloatKind.f64.format.order j 0 == some .eq) = true)
    (h1 : (FloatKind.f64.format.order j 4607182418800017408 == some .lt) = true) : ∃ J, FinV j J ∧ J ≤ U := by
  have h0' : Ieee.double.order j 0 = some .gt ∨ Ieee.double.order j 0 = some .eq := by simpa [FloatKind.format] using h0
  have h1' : Ieee.double.order j 4607182418800017408 = some .lt := by simpa [FloatKind.format] using h1
  clear h0 h1
  have r0 : Ieee.double.read 0 = .number false 0 (-1074) := by decide
  have r1 : Ieee.double.read 4607182418800017408 = .number false (2 ^ 52) (-52) := by decide
  cases hr : Ieee.double.read j with
  | nan s f =>
    unfold Ieee.Format.order at h1'
    rw [hr] at h1'
    cases h1'
  | infinity s =>
    unfold Ieee.Format.order at h0' h1'
    rw [hr, r0] at h0'
    rw [hr, r1] at h1'
    cases s
    · simp [Ieee.Datum.order] at h1'
    · simp [Ieee.Datum.order] at h0'
  | number neg m p =>
    obtain ⟨s, rfl⟩ := read_place hr
    have hz : neg = true → m = 0 := by
      intro hn
      subst hn
      unfold Ieee.Format.order at h0'
      rw [hr, r0] at h0'
      rcases Nat.eq_zero_or_pos m with e | e
      · exact e
      · exfalso
        have hp : 0 < m * 2 ^ s := Nat.mul_pos e (two_pow_pos' s)
        have e1 : ((s : Int) - 1074 - min ((s : Int) - 1074) (-1074)).toNat = s := by omega
        have hc : Ieee.Datum.order (.number true m ((s : Int) - 1074)) (.number false 0 (-1074)) = some .lt := by
          show some (compare (Ieee.signed true m _) (Ieee.signed false 0 _)) = _
          rw [e1]
          have es : Ieee.signed true m s = -((m * 2 ^ s : Nat) : Int) := by unfold Ieee.signed; rw [Nat.shiftLeft_eq]; rfl
          have ez : ∀ k, Ieee.signed false 0 k = 0 := fun k => by unfold Ieee.signed; rw [Nat.shiftLeft_eq]; simp
          rw [es, ez, Int.compare_eq_lt.2 (by omega)]
        rw [hc] at h0'
        rcases h0' with h | h <;> cases h
    have hf : FinV j (m * 2 ^ s) := ⟨neg, m, s, hr, rfl, hz⟩
    refine ⟨_, hf, ?_⟩
    have := fin_order hf fin_1
    rw [h1'] at this
    have hlt := Nat.compare_eq_lt.1 (Option.some.inj this).symm
    omega

/-- a new time -/
abbrev obT (n s : Int) : Obj := .cells #[.int .u64 n, .int .i64 s, .pointer none] 26

theorem timeAt_new (w : World) (n s : Int) : TimeAt (w.alloc (obT n s)) w.heap.size n s := by unfold TimeAt; go_simp
theorem timeAt_old {w : World} {b : Nat} {n s : Int} (h : TimeAt w b n s) (hlt : b < w.heap.size) (o : Obj) : TimeAt (w.alloc o) b n s := by
  obtain ⟨⟨c0, c1, c2⟩, f0, f1, f2⟩ := h
  unfold TimeAt
  go_simp
/-- behind a call: what lay there lies there still -/
theorem after_call {w1 w2 : World} {o : Obj} (hb : Below (w1.alloc o).heap.size (w1.alloc o) w2) : w1.heap.size < w2.heap.size := by
  have := hb.size; simp at this; omega
theorem tOld {w1 w2 : World} {o : Obj} {b : Nat} {n s : Int} (h : TimeAt w1 b n s) (hlt : b < w1.heap.size) (hb : Below (w1.alloc o).heap.size (w1.alloc o) w2) : TimeAt w2 b n s :=
  timeAt_below (timeAt_old h hlt o) hb (by simp; omega)
theorem tNew {w1 w2 : World} {n s : Int} (hb : Below (w1.alloc (obT n s)).heap.size (w1.alloc (obT n s)) w2) : TimeAt w2 w1.heap.size n s :=
  timeAt_below (timeAt_new w1 n s) hb (by simp)
theorem bStep {B : Nat} {w w1 w2 : World} {o : Obj} (h : Below B w w1) (hB : B ≤ w1.heap.size) (hb : Below (w1.alloc o).heap.size (w1.alloc o) w2) : Below B w w2 :=
  (h.alloc hB o).trans (hb.mono (by simp; omega))

/-- what a region that lays one new time leaves: the old times, the new one -/
structure Laid (B : Nat) (w X wc : World) (b : Nat) (n s : Int) : Prop where
  new : TimeAt wc b n s
  old : ∀ b' n' s', TimeAt X b' n' s' → b' < X.heap.size → TimeAt wc b' n' s'
  lt : b < wc.heap.size
  size : X.heap.size ≤ wc.heap.size
  below : Below B w wc

theorem laidA {B : Nat} {w X w4 : World} (n s : Int) (hX : Below B w X) (hB : B ≤ X.heap.size) (hb : Below X.heap.size X w4) : Laid B w X (w4.alloc (obT n s)) w4.heap.size n s where
  new := timeAt_new w4 n s
  old := fun b' n' s' h hl => timeAt_old (timeAt_below h hb hl) (by have := hb.size; omega) _
  lt := by simp
  size := by have := hb.size; simp; omega
  below := (hX.trans (hb.mono hB)).alloc (by have := hb.size; omega) _

theorem laidB {B b : Nat} {w X Y w4 : World} (n s : Int) (hX : Below B w X) (hB : B ≤ X.heap.size) (hY : Y = X.alloc (obT 0 0)) (he : X.heap.size = b) (hb : Below Y.heap.size Y w4) : Laid B w X (putT w4 b n s) b n s where
  new := by
    subst hY; subst he
    exact timeAt_put (timeAt_below (timeAt_new X 0 0) hb (by simp)) n s
  old := fun b' n' s' h hl => by
    subst hY; subst he
    exact timeAt_other (timeAt_below (timeAt_old h hl _) hb (by simp; omega)) (by omega) n s
  lt := by subst hY; subst he; have := hb.size; simp at this ⊢; omega
  size := by subst hY; subst he; have := hb.size; simp at this ⊢; omega
  below := by
    subst hY; subst he
    exact below_put ((hX.alloc hB _).trans (hb.mono (by simp; omega))) hB n s

theorem timeAt_drew {w : World} {b : Nat} {n s : Int} (h : TimeAt w b n s) : TimeAt w.drew b n s := h

end Go.Proofs.Qxb6630445a
