/-
  The doubles of the model, read as natural numbers in units of 2 ^ -1074: what the operations of the program's formula give. No Go in sight.
-/
import Derived.Test.Qxb6630445aRnd
namespace Go.Proofs.Qxb6630445a
open Ieee
set_option exponentiation.threshold 3000

theorem d_binade : double.binade = 2 ^ 52 := rfl
theorem d_frac : double.fractionBits = 52 := rfl
theorem d_inf : double.infRung = 2047 * 2 ^ 52 := by decide
theorem d_sign : double.signWeight = 2 ^ 63 := by decide
theorem d_least : double.leastPlace = -1074 := by decide

theorem word_true (r : Nat) : double.word true r = 2 ^ 63 + r := by unfold Format.word; rw [d_sign]; rfl
theorem word_false (r : Nat) : double.word false r = r := rfl

/-- the word nearest to a number, by its rung -/
theorem nearest_eq (neg : Bool) (mag : Nat) (place : Int) (c s : Nat) (h : place + 1074 + c = (s : Int)) :
    double.nearest neg mag place = double.word neg (min (rungK c (mag * 2 ^ s)) (2047 * 2 ^ 52)) := by
  unfold Format.nearest
  by_cases h0 : mag = 0
  · subst h0
    rw [if_pos rfl]
    have : rungK c (0 * 2 ^ s) = 0 := by simp [rungK, rne]
    rw [this]; simp
  · rw [if_neg h0]
    simp only [d_frac, d_least, d_binade, d_inf]
    have hl := log2_shift mag s h0
    have hlast : max (place + (mag.log2 : Int) - ((52 : Nat) : Int)) (-1074) = ((max ((mag * 2 ^ s).log2 - 52) c : Nat) : Int) - 1074 - c := by
      rw [hl]; omega
    rw [hlast, cut_even]
    unfold rungK
    generalize max ((mag * 2 ^ s).log2 - 52) c = d
    have e1 : ((d : Int) - 1074 - c - -1074).toNat = d - c := by omega
    rw [e1]
    have e2 : rne (mag <<< (place - ((d : Int) - 1074 - c)).toNat) ((d : Int) - 1074 - c - place).toNat = rne (mag * 2 ^ s) d := by
      rw [Nat.shiftLeft_eq]
      rcases Nat.lt_or_ge s d with hsd | hsd
      · rw [show (place - ((d : Int) - 1074 - c)).toNat = 0 by omega, show ((d : Int) - 1074 - c - place).toNat = d - s by omega, Nat.pow_zero, Nat.mul_one]
        rw [← rne_shift mag (d - s) s, show d - s + s = d by omega]
      · rw [show (place - ((d : Int) - 1074 - c)).toNat = s - d by omega, show ((d : Int) - 1074 - c - place).toNat = 0 by omega]
        rw [← rne_shift (mag * 2 ^ (s - d)) 0 d, Nat.mul_assoc, ← Nat.pow_add, show s - d + d = s by omega, Nat.zero_add]
    rw [e2]

/-- what a word below infinity stands for -/
theorem read_word (neg : Bool) (r : Nat) (h : r < 2047 * 2 ^ 52) :
    ∃ m s : Nat, double.read (double.word neg r) = .number neg m ((s : Int) - 1074) ∧ m * 2 ^ s = valR r ∧ (2 ^ 52 ≤ r → 2 ^ 52 ≤ m ∧ m < 2 ^ 53) := by
  have hr63 : r < 2 ^ 63 := by omega
  have hmod : double.word neg r % 2 ^ 63 = r := by
    cases neg
    · rw [word_false, Nat.mod_eq_of_lt hr63]
    · rw [word_true, Nat.add_mod_left, Nat.mod_eq_of_lt hr63]
  have hneg : (double.word neg r / 2 ^ 63 % 2 == 1) = neg := by
    cases neg
    · rw [word_false, Nat.div_eq_of_lt hr63]; rfl
    · rw [word_true, Nat.add_div_left _ (by decide), Nat.div_eq_of_lt hr63]; rfl
  unfold Format.read
  simp only [d_sign, hmod, hneg, d_binade, d_inf, d_least]
  by_cases h1 : r < 2 ^ 52
  · rw [if_pos h1]
    exact ⟨r, 0, by simp, by unfold valR; rw [if_pos h1]; simp, fun h2 => by omega⟩
  · rw [if_neg h1, if_pos h]
    refine ⟨2 ^ 52 + r % 2 ^ 52, r / 2 ^ 52 - 1, ?_, ?_, fun _ => ?_⟩
    · congr 1
    · unfold valR; rw [if_neg h1]
    · have := Nat.mod_lt r (show 0 < 2 ^ 52 by decide); omega

/-- a finite double that is not negative (a zero of either sign), in units of 2 ^ -1074 -/
def FinV (b X : Nat) : Prop := ∃ (neg : Bool) (m s : Nat), double.read b = .number neg m ((s : Int) - 1074) ∧ m * 2 ^ s = X ∧ (neg = true → m = 0)

theorem fin_word (neg : Bool) (r : Nat) (h : r < 2047 * 2 ^ 52) (hz : neg = true → r = 0) : FinV (double.word neg r) (valR r) := by
  obtain ⟨m, s, h1, h2, _⟩ := read_word neg r h
  refine ⟨neg, m, s, h1, h2, fun hn => ?_⟩
  have e := hz hn
  subst e
  have hv : valR 0 = 0 := rfl
  rw [hv] at h2
  rcases Nat.mul_eq_zero.1 h2 with h3 | h3
  · exact h3
  · have := two_pow_pos' s; omega

/-- a number written down -/
theorem fin_nearest (neg : Bool) (mag : Nat) (place : Int) (c s : Nat) (h : place + 1074 + c = (s : Int)) (hz : neg = true → mag = 0)
    (hf : rungK c (mag * 2 ^ s) < 2047 * 2 ^ 52) : FinV (double.nearest neg mag place) (RN c (mag * 2 ^ s)) := by
  rw [nearest_eq neg mag place c s h, Nat.min_eq_left (by omega)]
  refine fin_word neg _ hf fun hn => ?_
  rw [hz hn]; simp [rungK, rne]

theorem fin_mul {a b X Y : Nat} (ha : FinV a X) (hb : FinV b Y) (hf : rungK 1074 (X * Y) < 2047 * 2 ^ 52) :
    ∃ r, double.mul a b = some r ∧ FinV r (RN 1074 (X * Y)) := by
  obtain ⟨na, m, s, hra, rfl, hza⟩ := ha
  obtain ⟨nb, n, t, hrb, rfl, hzb⟩ := hb
  have e : m * 2 ^ s * (n * 2 ^ t) = m * n * 2 ^ (s + t) := by
    rw [Nat.pow_add]; simp only [Nat.mul_assoc, Nat.mul_left_comm]
  rw [e] at hf ⊢
  refine ⟨_, by unfold Format.mul; rw [hra, hrb]; rfl, ?_⟩
  refine fin_nearest _ _ _ 1074 (s + t) (by omega) (fun hn => ?_) hf
  cases na
  · cases nb
    · cases hn
    · rw [hzb rfl]; simp
  · rw [hza rfl]; simp

theorem fin_sub {a b X Y : Nat} (ha : FinV a X) (hb : FinV b Y) (hlt : Y < X) (hf : rungK 0 (X - Y) < 2047 * 2 ^ 52) :
    ∃ r, double.sub a b = some r ∧ FinV r (RN 0 (X - Y)) := by
  obtain ⟨na, m, s, hra, rfl, hza⟩ := ha
  obtain ⟨nb, n, t, hrb, rfl, hzb⟩ := hb
  have hna : na = false := by
    cases na
    · rfl
    · rw [hza rfl] at hlt; simp at hlt
  subst hna
  have hbase : min ((s : Int) - 1074) ((t : Int) - 1074) = ((min s t : Nat) : Int) - 1074 := by omega
  have hs : ((s : Int) - 1074 - (((min s t : Nat) : Int) - 1074)).toNat = s - min s t := by omega
  have ht : ((t : Int) - 1074 - (((min s t : Nat) : Int) - 1074)).toNat = t - min s t := by omega
  have hms : m * 2 ^ (s - min s t) * 2 ^ min s t = m * 2 ^ s := by rw [Nat.mul_assoc, ← Nat.pow_add]; congr 2; omega
  have hnt : n * 2 ^ (t - min s t) * 2 ^ min s t = n * 2 ^ t := by rw [Nat.mul_assoc, ← Nat.pow_add]; congr 2; omega
  have hA : n * 2 ^ (t - min s t) < m * 2 ^ (s - min s t) := by
    rw [← hms, ← hnt] at hlt
    exact Nat.lt_of_mul_lt_mul_right hlt
  have hsg : signed (!nb) n (t - min s t) = -((n * 2 ^ (t - min s t) : Nat) : Int) := by
    unfold signed
    rw [Nat.shiftLeft_eq]
    cases nb
    · rfl
    · rw [hzb rfl]; simp
  have hsm : signed false m (s - min s t) = ((m * 2 ^ (s - min s t) : Nat) : Int) := by
    unfold signed; rw [Nat.shiftLeft_eq]; rfl
  refine ⟨double.nearest false (m * 2 ^ (s - min s t) - n * 2 ^ (t - min s t)) (((min s t : Nat) : Int) - 1074), ?_, ?_⟩
  · unfold Format.sub
    rw [hra, hrb]
    show Option.map double.write (some (.number _ _ _)) = _
    simp only [hbase, hs, ht, hsg, hsm, Option.map_some, Format.write]
    have h1 : ((m * 2 ^ (s - min s t) : Nat) : Int) + -((n * 2 ^ (t - min s t) : Nat) : Int) ≠ 0 := by omega
    have h2 : (((m * 2 ^ (s - min s t) : Nat) : Int) + -((n * 2 ^ (t - min s t) : Nat) : Int)).natAbs = m * 2 ^ (s - min s t) - n * 2 ^ (t - min s t) := by omega
    have h3 : decide (((m * 2 ^ (s - min s t) : Nat) : Int) + -((n * 2 ^ (t - min s t) : Nat) : Int) < 0) = false := decide_eq_false (by omega)
    rw [if_neg h1, h2, h3]
  · have e : (m * 2 ^ (s - min s t) - n * 2 ^ (t - min s t)) * 2 ^ min s t = m * 2 ^ s - n * 2 ^ t := by
      rw [Nat.sub_mul, hms, hnt]
    rw [← e] at hf ⊢
    exact fin_nearest false _ _ 0 (min s t) (by omega) (fun h => by cases h) hf

theorem fin_order {a b X Y : Nat} (ha : FinV a X) (hb : FinV b Y) : double.order a b = some (compare X Y) := by
  obtain ⟨na, m, s, hra, rfl, hza⟩ := ha
  obtain ⟨nb, n, t, hrb, rfl, hzb⟩ := hb
  have hbase : min ((s : Int) - 1074) ((t : Int) - 1074) = ((min s t : Nat) : Int) - 1074 := by omega
  have hs : ((s : Int) - 1074 - (((min s t : Nat) : Int) - 1074)).toNat = s - min s t := by omega
  have ht : ((t : Int) - 1074 - (((min s t : Nat) : Int) - 1074)).toNat = t - min s t := by omega
  have hms : m * 2 ^ (s - min s t) * 2 ^ min s t = m * 2 ^ s := by rw [Nat.mul_assoc, ← Nat.pow_add]; congr 2; omega
  have hnt : n * 2 ^ (t - min s t) * 2 ^ min s t = n * 2 ^ t := by rw [Nat.mul_assoc, ← Nat.pow_add]; congr 2; omega
  have hsg : signed nb n (t - min s t) = ((n * 2 ^ (t - min s t) : Nat) : Int) := by
    unfold signed
    rw [Nat.shiftLeft_eq]
    cases nb
    · rfl
    · rw [hzb rfl]; simp
  have hsm : signed na m (s - min s t) = ((m * 2 ^ (s - min s t) : Nat) : Int) := by
    unfold signed
    rw [Nat.shiftLeft_eq]
    cases na
    · rfl
    · rw [hza rfl]; simp
  unfold Format.order
  rw [hra, hrb]
  show some (compare _ _) = _
  rw [hbase, hs, ht, hsg, hsm, ← hms, ← hnt]
  congr 1
  have hp := two_pow_pos' (min s t)
  generalize 2 ^ min s t = g at *
  generalize m * 2 ^ (s - min s t) = A at *
  generalize n * 2 ^ (t - min s t) = B at *
  rcases Nat.lt_trichotomy A B with h | h | h
  · rw [Nat.compare_eq_lt.2 (Nat.mul_lt_mul_of_pos_right h hp), Int.compare_eq_lt.2 (by omega)]
  · subst h; simp
  · rw [Nat.compare_eq_gt.2 (Nat.mul_lt_mul_of_pos_right h hp), Int.compare_eq_gt.2 (by omega)]

theorem pow_split {n s : Nat} (h : s ≤ n) : 2 ^ n = 2 ^ (n - s) * 2 ^ s := by rw [← Nat.pow_add, Nat.sub_add_cancel h]

/-- one, in those units -/
def U : Nat := 2 ^ 1074
theorem U_pos : 0 < U := two_pow_pos' 1074

theorem fin_trunc {b X : Nat} (h : FinV b X) : (double.read b).toInt .zero = some ((X / U : Nat) : Int) := by
  unfold U
  obtain ⟨neg, m, s, hr, rfl, hz⟩ := h
  rw [hr]
  show some (signed neg (Toward.zero.cut neg (m <<< ((s : Int) - 1074).toNat) (-((s : Int) - 1074)).toNat) 0) = _
  have hcut : Toward.zero.cut neg (m <<< ((s : Int) - 1074).toNat) (-((s : Int) - 1074)).toNat = m * 2 ^ s / 2 ^ 1074 := by
    have hc : ∀ n drop, Toward.zero.cut neg n drop = n / 2 ^ drop := by
      intro n drop
      unfold Toward.cut
      simp only [Nat.one_shiftLeft]
      rcases Nat.lt_or_ge drop (n.log2 + 2) with h | h
      · rw [Nat.min_eq_left (by omega)]; simp
      · rw [Nat.min_eq_right h]
        have hn : n < 2 ^ (n.log2 + 1) := Nat.lt_log2_self
        have h1 : 2 ^ (n.log2 + 1) ≤ 2 ^ (n.log2 + 2) := Nat.pow_le_pow_right (by omega) (by omega)
        have hd : 2 ^ (n.log2 + 2) ≤ 2 ^ drop := Nat.pow_le_pow_right (by omega) h
        rw [Nat.div_eq_of_lt (by omega), Nat.div_eq_of_lt (by omega)]; simp
    rw [hc, Nat.shiftLeft_eq]
    rcases Nat.lt_or_ge s 1074 with h | h
    · rw [show ((s : Int) - 1074).toNat = 0 by omega, show (-((s : Int) - 1074)).toNat = 1074 - s by omega, Nat.pow_zero, Nat.mul_one]
      have := pow_split (n := 1074) (s := s) (by omega)
      rw [this, Nat.mul_div_mul_right _ _ (two_pow_pos' s)]
    · rw [show ((s : Int) - 1074).toNat = s - 1074 by omega, show (-((s : Int) - 1074)).toNat = 0 by omega, Nat.pow_zero, Nat.div_one]
      have := pow_split (n := s) (s := 1074) h
      rw [this, ← Nat.mul_assoc, Nat.mul_div_cancel _ (two_pow_pos' 1074)]
  rw [hcut]
  unfold signed
  cases neg
  · generalize m * 2 ^ s / 2 ^ 1074 = q; rfl
  · rw [hz rfl, Nat.zero_mul, Nat.zero_div]; rfl

end Go.Proofs.Qxb6630445a
