/-
  The formula of BoundRenewalTime over the doubles of the model: what comes out, and the laws of it. No Go in sight.
-/
import Derived.Test.Qxb6630445aFlt
namespace Go.Proofs.Qxb6630445a
open Ieee
set_option exponentiation.threshold 3000

theorem U_eq : U = 2 ^ 1074 := rfl
theorem U_split (k : Nat) (h : k ≤ 1074) : U = 2 ^ (1074 - k) * 2 ^ k := by rw [U_eq, ← Nat.pow_add, Nat.sub_add_cancel h]

theorem fin_of_read {b m n k s : Nat} (h : double.read b = .number false m ((s : Int) - 1074)) (hm : m = n * 2 ^ k) (hs : s + k = 1074) : FinV b (n * U) := by
  refine ⟨false, m, s, h, ?_, fun h => by cases h⟩
  subst hm
  rw [Nat.mul_assoc, ← Nat.pow_add, U_eq, ← hs, Nat.add_comm]

theorem fin_1e9 : FinV 4741671816366391296 (1000000000 * U) := fin_of_read (m := 1000000000 * 2 ^ 23) (k := 23) (s := 1051) (by decide) rfl rfl
theorem fin_4 : FinV 4616189618054758400 (4 * U) := fin_of_read (m := 4 * 2 ^ 50) (k := 50) (s := 1024) (by decide) rfl rfl
theorem fin_24h : FinV 4815374002031689728 (86400000000000 * U) := fin_of_read (m := 86400000000000 * 2 ^ 6) (k := 6) (s := 1068) (by decide) rfl rfl
theorem fin_10s : FinV 4756540486875873280 (10000000000 * U) := fin_of_read (m := 10000000000 * 2 ^ 19) (k := 19) (s := 1055) (by decide) rfl rfl
theorem fin_1 : FinV 4607182418800017408 (1 * U) := fin_of_read (m := 1 * 2 ^ 52) (k := 52) (s := 1022) (by decide) rfl rfl
theorem fin_0 : FinV 0 0 := ⟨false, 0, 0, by decide, by decide, fun h => by cases h⟩
theorem read_5 : double.read 4617315517961601024 = .number false (5 * 2 ^ 50) (-50) := by decide
theorem read_100 : double.read 4636737291354636288 = .number false (25 * 2 ^ 48) (-46) := by decide

theorem fin_norm {b X : Nat} (h : FinV b X) (hX : 2 ^ 52 ≤ X) : ∃ m s : Nat, double.read b = .number false m ((s : Int) - 1074) ∧ m * 2 ^ s = X ∧ 2 ^ 52 ≤ m ∧ m < 2 ^ 53 := by
  obtain ⟨neg, m, s, hr, hv, hz⟩ := h
  have hneg : neg = false := by
    cases neg
    · rfl
    · rw [hz rfl, Nat.zero_mul] at hv; omega
  subst hneg
  refine ⟨m, s, hr, hv, ?_⟩
  unfold Format.read at hr
  simp only [d_sign, d_binade, d_inf, d_least] at hr
  split at hr
  · rename_i h1
    injection hr with _ e1 e2
    have hs : s = 0 := by omega
    subst hs
    rw [Nat.pow_zero, Nat.mul_one] at hv
    omega
  · split at hr
    · injection hr with _ e1 _
      have := Nat.mod_lt (b % 2 ^ 63) (show 0 < 2 ^ 52 by decide)
      omega
    · split at hr <;> cases hr

theorem div_eq {a b m n : Nat} {i j : Int} (ha : double.read a = .number false m i) (hb : double.read b = .number false n j) (hm : 2 ^ 52 ≤ m ∧ m < 2 ^ 53) (hn : 2 ^ 52 ≤ n ∧ n < 2 ^ 53) :
    double.div a b = some (double.nearest false (2 * (m * 2 ^ 54 / n) + (m * 2 ^ 54 % n != 0).toNat) (i - j - (54 : Nat) - 1)) := by
  have lm : m.log2 = 52 := (Nat.log2_eq_iff (by omega)).2 ⟨hm.1, hm.2⟩
  have ln : n.log2 = 52 := (Nat.log2_eq_iff (by omega)).2 ⟨hn.1, hn.2⟩
  unfold Format.div
  rw [ha, hb]
  show Option.map double.write (if n = 0 then _ else _) = _
  rw [if_neg (by omega), lm, ln, Nat.shiftLeft_eq]
  rfl

theorem toNat_le (p : Bool) : p.toNat ≤ 1 := by cases p <;> decide

theorem fin_div {a b X m n k c : Nat} {s : Nat} {j : Int} (hra : double.read a = .number false m ((s : Int) - 1074)) (hv : m * 2 ^ s = X) (hm : 2 ^ 52 ≤ m ∧ m < 2 ^ 53)
    (hb : double.read b = .number false (n * 2 ^ k) j) (hn : 2 ^ 52 ≤ n * 2 ^ k ∧ n * 2 ^ k < 2 ^ 53) (hk : k ≤ 54) (hc : j + 55 = (c : Int)) (hX : X ≤ 2 ^ 100 * U) :
    ∃ r, double.div a b = some r ∧ FinV r (RN c ((2 * (m * 2 ^ (54 - k) / n) + (m * 2 ^ (54 - k) % n != 0).toNat) * 2 ^ s)) := by
  have hp := two_pow_pos' k
  have e1 : m * 2 ^ 54 = m * 2 ^ (54 - k) * 2 ^ k := by rw [Nat.mul_assoc, ← Nat.pow_add, Nat.sub_add_cancel hk]
  have ed : m * 2 ^ 54 / (n * 2 ^ k) = m * 2 ^ (54 - k) / n := by rw [e1, Nat.mul_div_mul_right _ _ hp]
  have em : (m * 2 ^ 54 % (n * 2 ^ k) != 0) = (m * 2 ^ (54 - k) % n != 0) := by
    rw [e1, Nat.mul_mod_mul_right]
    generalize m * 2 ^ (54 - k) % n = q
    rw [Bool.eq_iff_iff]
    simp only [bne_iff_ne, ne_eq, Nat.mul_eq_zero]
    constructor
    · intro h e; exact h (.inl e)
    · intro h e; rcases e with e | e
      · exact h e
      · omega
  have hd := div_eq hra hb hm hn
  rw [ed, em] at hd
  refine ⟨_, hd, ?_⟩
  refine fin_nearest false _ _ c s (by omega) (fun h => by cases h) ?_
  -- below infinity
  have hrep : Rep (1 * 2 ^ 1230) := rep_mk 1 1230 (by decide) (by decide)
  refine hrep.lt_inf ?_
  have hq : 2 * (m * 2 ^ (54 - k) / n) + (m * 2 ^ (54 - k) % n != 0).toNat ≤ m * 2 ^ 56 := by
    have h1 : m * 2 ^ (54 - k) / n ≤ m * 2 ^ (54 - k) := Nat.div_le_self _ _
    have h2 : m * 2 ^ (54 - k) ≤ m * 2 ^ 54 := Nat.mul_le_mul_left _ (Nat.pow_le_pow_right (by omega) (by omega))
    have h3 := toNat_le (m * 2 ^ (54 - k) % n != 0)
    omega
  have h4 := Nat.mul_le_mul_right (2 ^ s) hq
  have h5 : m * 2 ^ 56 * 2 ^ s = X * 2 ^ 56 := by rw [← hv, Nat.mul_assoc, Nat.mul_comm (2 ^ 56) (2 ^ s), Nat.mul_assoc]
  have h6 : X * 2 ^ 56 ≤ 1 * 2 ^ 1230 := by
    have := Nat.mul_le_mul_right (2 ^ 56) hX
    rw [U_eq, ← Nat.pow_add, ← Nat.pow_add, show 100 + 1074 + 56 = 1230 by rfl] at this
    omega
  have h7 : 1 * 2 ^ 1230 ≤ 1 * 2 ^ 1230 * 2 ^ c := Nat.le_mul_of_pos_right _ (two_pow_pos' c)
  rw [h5] at h4
  exact Nat.le_trans h4 (Nat.le_trans h6 h7)

theorem rep_U (n : Nat) (h : n < 2 ^ 53) : Rep (n * U) := rep_mk n 1074 h (by decide)

theorem dvd_of_odd (d m s : Nat) (hd : Nat.Coprime d 2) (h : d ∣ m * 2 ^ s) : d ∣ m :=
  (Nat.Coprime.pow_right s hd).dvd_of_dvd_mul_right h

/-- a fifth: a whole one is exact; 8.64e13 and more stays so -/
theorem fin_div5 {a X : Nat} (ha : FinV a X) (h0 : 2 ^ 52 ≤ X) (hX : X ≤ 2 ^ 100 * U) :
    ∃ r Z, double.div a 4617315517961601024 = some r ∧ FinV r Z ∧ (∀ W, Rep W → X = 5 * W → Z = W) ∧ (432000000000000 * U ≤ X → 86400000000000 * U ≤ Z) := by
  obtain ⟨m, s, hr, hv, hm⟩ := fin_norm ha h0
  obtain ⟨r, h1, h2⟩ := fin_div (n := 5) (k := 50) (c := 5) hr hv hm read_5 (by decide) (by decide) (by decide) hX
  refine ⟨r, _, h1, h2, ?_, ?_⟩
  · intro W hW hXW
    have hdv : 5 ∣ m := dvd_of_odd 5 m s (by decide) ⟨W, by rw [hv, hXW]⟩
    obtain ⟨k, rfl⟩ := hdv
    have e1 : 5 * k * 2 ^ (54 - 50) / 5 = k * 16 := by
      rw [show 5 * k * 2 ^ (54 - 50) = 5 * (k * 16) by omega, Nat.mul_div_cancel_left _ (by decide)]
    have e2 : 5 * k * 2 ^ (54 - 50) % 5 = 0 := by
      rw [show 5 * k * 2 ^ (54 - 50) = 5 * (k * 16) by omega, Nat.mul_mod_right]
    rw [e1, e2]
    have e3 : k * 2 ^ s = W := by
      have : 5 * (k * 2 ^ s) = 5 * W := by rw [← hXW, ← hv, Nat.mul_assoc]
      omega
    have e4 : (2 * (k * 16) + (0 != 0 : Bool).toNat) * 2 ^ s = W * 2 ^ 5 := by
      rw [← e3, show 2 * (k * 16) + (0 != 0 : Bool).toNat = k * 2 ^ 5 by simp; omega, Nat.mul_assoc, Nat.mul_assoc, Nat.mul_comm (2 ^ 5)]
    rw [e4, hW.exact]
  · intro hge
    refine (rep_U 86400000000000 (by decide)).ge ?_
    have hst : ∀ q b : Nat, 2 * q ≤ 2 * q + b := fun q b => by omega
    refine Nat.le_trans ?_ (Nat.mul_le_mul_right _ (hst _ _))
    have hU : U = 16 * 2 ^ 1070 := by rw [U_split 1070 (by decide)]
    rw [hU] at hge ⊢
    rw [← hv] at hge
    have hP := two_pow_pos' 1070
    generalize hg : (2 : Nat) ^ 1070 = P at *
    rcases Nat.lt_trichotomy s 1070 with hs | hs | hs
    · exfalso
      have h3 : 2 * 2 ^ s ≤ P := by rw [← hg, ← Nat.pow_succ']; exact Nat.pow_le_pow_right (by decide) (by omega)
      have h4 : m * 2 ^ s ≤ 2 ^ 53 * 2 ^ s := Nat.mul_le_mul_right _ (by omega)
      omega
    · subst hs
      rw [hg] at hge ⊢
      have h3 : 432000000000000 * 16 ≤ m := by
        rw [← Nat.mul_assoc] at hge
        exact Nat.le_of_mul_le_mul_right hge hP
      have h4 : 432000000000000 * 16 * 16 / 5 ≤ m * 2 ^ (54 - 50) / 5 := Nat.div_le_div_right (Nat.mul_le_mul_right _ h3)
      have h5 : 2 * (432000000000000 * 16 * 16 / 5) * P ≤ 2 * (m * 2 ^ (54 - 50) / 5) * P := Nat.mul_le_mul_right _ (Nat.mul_le_mul_left _ h4)
      omega
    · have h3 : 2 * P ≤ 2 ^ s := by rw [← hg, ← Nat.pow_succ']; exact Nat.pow_le_pow_right (by decide) (by omega)
      have h4 : 2 ^ 52 * 16 / 5 ≤ m * 2 ^ (54 - 50) / 5 := Nat.div_le_div_right (Nat.mul_le_mul_right _ hm.1)
      have h5 : 2 * (2 ^ 52 * 16 / 5) * (2 * P) ≤ 2 * (m * 2 ^ (54 - 50) / 5) * 2 ^ s := Nat.mul_le_mul (Nat.mul_le_mul_left _ h4) h3
      omega

theorem arith100 (P : Nat) : 10000000000 * (8192 * P) * 2 ^ 9 ≤ 2 * (1000000000000 * 8192 * 64 / 25) * P := by omega

/-- a hundredth: a whole one is exact; 1e10 and more stays so -/
theorem fin_div100 {a X : Nat} (ha : FinV a X) (h0 : 2 ^ 52 ≤ X) (hX : X ≤ 2 ^ 100 * U) :
    ∃ r Z, double.div a 4636737291354636288 = some r ∧ FinV r Z ∧ (∀ W, Rep W → X = 100 * W → Z = W) ∧ (1000000000000 * U ≤ X → 10000000000 * U ≤ Z) := by
  obtain ⟨m, s, hr, hv, hm⟩ := fin_norm ha h0
  obtain ⟨r, h1, h2⟩ := fin_div (n := 25) (k := 48) (c := 9) hr hv hm read_100 (by decide) (by decide) (by decide) hX
  refine ⟨r, _, h1, h2, ?_, ?_⟩
  · intro W hW hXW
    have hdv : 25 ∣ m := dvd_of_odd 25 m s (by decide) ⟨4 * W, by rw [hv, hXW]; omega⟩
    obtain ⟨k, rfl⟩ := hdv
    have e1 : 25 * k * 2 ^ (54 - 48) / 25 = k * 64 := by
      rw [show 25 * k * 2 ^ (54 - 48) = 25 * (k * 64) by omega, Nat.mul_div_cancel_left _ (by decide)]
    have e2 : 25 * k * 2 ^ (54 - 48) % 25 = 0 := by
      rw [show 25 * k * 2 ^ (54 - 48) = 25 * (k * 64) by omega, Nat.mul_mod_right]
    rw [e1, e2]
    have e3 : k * 2 ^ s = 4 * W := by
      have : 25 * (k * 2 ^ s) = 100 * W := by rw [← hXW, ← hv, Nat.mul_assoc]
      omega
    have e4 : (2 * (k * 64) + (0 != 0 : Bool).toNat) * 2 ^ s = W * 2 ^ 9 := by
      rw [show 2 * (k * 64) + (0 != 0 : Bool).toNat = 128 * k by simp; omega, Nat.mul_assoc, e3]; omega
    rw [e4, hW.exact]
  · intro hge
    refine (rep_U 10000000000 (by decide)).ge ?_
    have hst : ∀ q b : Nat, 2 * q ≤ 2 * q + b := fun q b => by omega
    refine Nat.le_trans ?_ (Nat.mul_le_mul_right _ (hst _ _))
    have hU : U = 8192 * 2 ^ 1061 := by rw [U_split 1061 (by decide)]
    rw [hU] at hge ⊢
    rw [← hv] at hge
    have hP := two_pow_pos' 1061
    generalize hg : (2 : Nat) ^ 1061 = P at *
    rcases Nat.lt_trichotomy s 1061 with hs | hs | hs
    · exfalso
      have h3 : 2 * 2 ^ s ≤ P := by rw [← hg, ← Nat.pow_succ']; exact Nat.pow_le_pow_right (by decide) (by omega)
      have h4 : m * 2 ^ s ≤ 2 ^ 53 * 2 ^ s := Nat.mul_le_mul_right _ (by omega)
      omega
    · subst hs
      rw [hg] at hge ⊢
      have h3 : 1000000000000 * 8192 ≤ m := by
        rw [← Nat.mul_assoc] at hge
        exact Nat.le_of_mul_le_mul_right hge hP
      have h4 : 1000000000000 * 8192 * 64 / 25 ≤ m * 2 ^ (54 - 48) / 25 := Nat.div_le_div_right (Nat.mul_le_mul_right _ h3)
      have h5 : 2 * (1000000000000 * 8192 * 64 / 25) * P ≤ 2 * (m * 2 ^ (54 - 48) / 25) * P := Nat.mul_le_mul_right _ (Nat.mul_le_mul_left _ h4)
      exact Nat.le_trans (arith100 P) h5
    · have h3 : 2 * P ≤ 2 ^ s := by rw [← hg, ← Nat.pow_succ']; exact Nat.pow_le_pow_right (by decide) (by omega)
      have h4 : 2 ^ 52 * 64 / 25 ≤ m * 2 ^ (54 - 48) / 25 := Nat.div_le_div_right (Nat.mul_le_mul_right _ hm.1)
      have h5 : 2 * (2 ^ 52 * 64 / 25) * (2 * P) ≤ 2 * (m * 2 ^ (54 - 48) / 25) * 2 ^ s := Nat.mul_le_mul (Nat.mul_le_mul_left _ h4) h3
      omega

/-- the smaller of two doubles, as the model takes it -/
def minF (x y : Nat) : Nat := match double.order x y with
  | some .lt => x
  | some .gt => y
  | some .eq => if (double.read x).neg then x else y
  | none => x

theorem minF_left {x y X Y : Nat} (hx : FinV x X) (hy : FinV y Y) (h : X ≤ Y) : FinV (minF x y) X := by
  unfold minF
  rw [fin_order hx hy]
  rcases Nat.lt_or_ge X Y with hl | hl
  · rw [Nat.compare_eq_lt.2 hl]; exact hx
  · have e : X = Y := by omega
    subst e
    rw [Nat.compare_eq_eq.2 rfl]
    show FinV (if (double.read x).neg then x else y) X
    split
    · exact hx
    · exact hy
theorem minF_right {x y X Y : Nat} (hx : FinV x X) (hy : FinV y Y) (h : Y ≤ X) : FinV (minF x y) Y := by
  rcases Nat.lt_or_ge Y X with hl | hl
  · unfold minF
    rw [fin_order hx hy, Nat.compare_eq_gt.2 hl]; exact hy
  · have e : X = Y := by omega
    subst e
    exact minF_left hx hy (Nat.le_refl _)

/-- the age and the spread, in whole nanoseconds -/
def ageN (L : Nat) : Nat := 800000000 * min L 108000
def sprN (L : Nat) : Nat := 10000000 * min L 1000
/-- the duration, from the jitter in units of 2 ^ -1074 -/
def durN (L J : Nat) : Nat := RN 0 (ageN L * U - RN 1074 (J * (sprN L * U))) / U

theorem age_bd (L : Nat) : ageN L ≤ 86400000000000 := by unfold ageN; omega
theorem spr_bd (L : Nat) : sprN L ≤ 10000000000 := by unfold sprN; omega
theorem spr_lt (L : Nat) (h : 0 < L) : sprN L + 790000000 ≤ ageN L := by unfold ageN sprN; omega

theorem mulU (a b : Nat) : a * U * (b * U) = a * b * U * 2 ^ 1074 := by
  rw [U_eq]; generalize (2 : Nat) ^ 1074 = V
  rw [Nat.mul_assoc a V, Nat.mul_left_comm V b V, ← Nat.mul_assoc, ← Nat.mul_assoc]

/-- the lifetime in nanoseconds -/
theorem fin_ns (L : Nat) (h0 : 0 < L) (h63 : L < 2 ^ 63) :
    ∃ b X, double.mul (double.nearest false L 0) 4741671816366391296 = some b ∧ FinV b X ∧ X ≤ 2 ^ 93 * U ∧ (∀ n, n ≤ L → n ≤ 9007199 → n * 1000000000 * U ≤ X) ∧ (L ≤ 9007199 → X = L * 1000000000 * U) := by
  have hr1 : Rep (2 ^ 63 * U) := by rw [U_eq, ← Nat.pow_add, ← Nat.one_mul (2 ^ (63 + 1074))]; exact rep_mk 1 (63 + 1074) (by decide) (by decide)
  have hr2 : Rep (2 ^ 93 * U) := by rw [U_eq, ← Nat.pow_add, ← Nat.one_mul (2 ^ (93 + 1074))]; exact rep_mk 1 (93 + 1074) (by decide) (by decide)
  have hup : L * 2 ^ 1074 ≤ 2 ^ 63 * U * 2 ^ 0 := by
    rw [Nat.pow_zero, Nat.mul_one, U_eq]; exact Nat.mul_le_mul_right _ (by omega)
  have hb1 := fin_nearest false L 0 0 1074 (by decide) (fun h => by cases h) (hr1.lt_inf hup)
  have hX1 := hr1.le hup
  have hlow : ∀ n, n ≤ L → n < 2 ^ 53 → n * U ≤ RN 0 (L * 2 ^ 1074) := fun n hn h53 =>
    (rep_U n h53).ge (by rw [Nat.pow_zero, Nat.mul_one, U_eq]; exact Nat.mul_le_mul_right _ hn)
  have hex : L < 2 ^ 53 → RN 0 (L * 2 ^ 1074) = L * U := fun h => by
    have := (rep_U L h).exact 0
    rwa [Nat.pow_zero, Nat.mul_one, U_eq] at this
  generalize RN 0 (L * 2 ^ 1074) = X1 at *
  have hup2 : X1 * (1000000000 * U) ≤ 2 ^ 93 * U * 2 ^ 1074 := by
    refine Nat.le_trans (Nat.mul_le_mul_right _ hX1) ?_
    rw [mulU]
    exact Nat.mul_le_mul_right _ (Nat.mul_le_mul_right _ (by decide))
  obtain ⟨b, hb, hf⟩ := fin_mul hb1 fin_1e9 (hr2.lt_inf hup2)
  refine ⟨b, _, hb, hf, hr2.le hup2, ?_, ?_⟩
  · intro n hn h9
    refine (rep_U (n * 1000000000) (by omega)).ge ?_
    rw [← mulU]
    exact Nat.mul_le_mul_right _ (hlow n hn (by omega))
  · intro h9
    rw [hex (by omega), mulU]
    exact (rep_U (L * 1000000000) (by omega)).exact 1074

/-- the whole formula -/
theorem formula (L j J : Nat) (h0 : 0 < L) (h63 : L < 2 ^ 63) (hj : FinV j J) (hJ : J ≤ U) :
    ∃ b2 b3 b4 b5 bp bd, double.mul (double.nearest false L 0) 4741671816366391296 = some b2 ∧ double.mul b2 4616189618054758400 = some b3 ∧
      double.div b3 4617315517961601024 = some b4 ∧ (∃ o, double.order b4 4815374002031689728 = some o) ∧ double.div b2 4636737291354636288 = some b5 ∧ (∃ o, double.order b5 4756540486875873280 = some o) ∧
      double.mul j (minF b5 4756540486875873280) = some bp ∧ double.sub (minF b4 4815374002031689728) bp = some bd ∧ (double.read bd).toInt .zero = some ((durN L J : Nat) : Int) := by
  obtain ⟨b2, X2, hb2, hf2, hu2, hl2, he2⟩ := fin_ns L h0 h63
  have hUp := U_pos
  have hU52 : 2 ^ 52 ≤ U := by rw [U_eq]; exact Nat.pow_le_pow_right (by decide) (by decide)
  -- times four
  have hr3 : Rep (2 ^ 95 * U) := by rw [U_eq, ← Nat.pow_add, ← Nat.one_mul (2 ^ (95 + 1074))]; exact rep_mk 1 (95 + 1074) (by decide) (by decide)
  have hup3 : X2 * (4 * U) ≤ 2 ^ 95 * U * 2 ^ 1074 := by
    refine Nat.le_trans (Nat.mul_le_mul_right _ hu2) ?_
    rw [mulU]
    exact Nat.mul_le_mul_right _ (Nat.mul_le_mul_right _ (by decide))
  obtain ⟨b3, hb3, hf3⟩ := fin_mul hf2 fin_4 (hr3.lt_inf hup3)
  have hu3 := hr3.le hup3
  have hl3 : ∀ n, n ≤ L → n ≤ 108000 → n * 4000000000 * U ≤ RN 1074 (X2 * (4 * U)) := fun n hn h9 =>
    (rep_U (n * 4000000000) (by omega)).ge (by
      rw [show n * 4000000000 = n * 1000000000 * 4 by omega, ← mulU]
      exact Nat.mul_le_mul_right _ (hl2 n hn (by omega)))
  have he3 : L ≤ 108000 → RN 1074 (X2 * (4 * U)) = L * 4000000000 * U := fun h9 => by
    rw [he2 (by omega), mulU, show L * 1000000000 * 4 = L * 4000000000 by omega]
    exact (rep_U (L * 4000000000) (by omega)).exact 1074
  generalize RN 1074 (X2 * (4 * U)) = X3 at *
  -- a fifth
  have h13 := hl3 1 (by omega) (by omega)
  obtain ⟨b4, X4, hb4, hf4, he4, hl4⟩ := fin_div5 hf3 (by omega) (Nat.le_trans hu3 (Nat.mul_le_mul_right _ (by decide)))
  -- a hundredth
  have h12 := hl2 1 (by omega) (by omega)
  obtain ⟨b5, X5, hb5, hf5, he5, hl5⟩ := fin_div100 hf2 (by omega) (Nat.le_trans hu2 (Nat.mul_le_mul_right _ (by decide)))
  -- the two minima
  have hA : FinV (minF b4 4815374002031689728) (ageN L * U) := by
    rcases Nat.lt_or_ge L 108000 with hL | hL
    · have e4 : X4 = ageN L * U := he4 _ (rep_U _ (by have := age_bd L; omega)) (by
        rw [he3 (by omega), show ageN L = 800000000 * L by unfold ageN; omega, ← Nat.mul_assoc]
        congr 1; omega)
      rw [e4] at hf4
      exact minF_left hf4 fin_24h (Nat.mul_le_mul_right _ (age_bd L))
    · have e : ageN L = 86400000000000 := by unfold ageN; omega
      rw [e]
      exact minF_right hf4 fin_24h (hl4 (by have := hl3 108000 hL (by omega); omega))
  have hS : FinV (minF b5 4756540486875873280) (sprN L * U) := by
    rcases Nat.lt_or_ge L 1000 with hL | hL
    · have e5 : X5 = sprN L * U := he5 _ (rep_U _ (by have := spr_bd L; omega)) (by
        rw [he2 (by omega), show sprN L = 10000000 * L by unfold sprN; omega, ← Nat.mul_assoc]
        congr 1; omega)
      rw [e5] at hf5
      exact minF_left hf5 fin_10s (Nat.mul_le_mul_right _ (spr_bd L))
    · have e : sprN L = 10000000000 := by unfold sprN; omega
      rw [e]
      exact minF_right hf5 fin_10s (hl5 (by have := hl2 1000 hL (by omega); omega))
  -- the product
  have hrS := rep_U (sprN L) (by have := spr_bd L; omega)
  have hrA := rep_U (ageN L) (by have := age_bd L; omega)
  have hupp : J * (sprN L * U) ≤ sprN L * U * 2 ^ 1074 := by
    rw [Nat.mul_comm, ← U_eq]; exact Nat.mul_le_mul_left _ hJ
  obtain ⟨bp, hbp, hfp⟩ := fin_mul hj hS (hrS.lt_inf hupp)
  have hpl := hrS.le hupp
  -- the difference
  have hlt : sprN L * U < ageN L * U := Nat.mul_lt_mul_of_pos_right (by have := spr_lt L h0; omega) hUp
  have hupd : ageN L * U - RN 1074 (J * (sprN L * U)) ≤ ageN L * U * 2 ^ 0 := by rw [Nat.pow_zero, Nat.mul_one]; omega
  obtain ⟨bd, hbd, hfd⟩ := fin_sub hA hfp (by omega) (hrA.lt_inf hupd)
  exact ⟨b2, b3, b4, b5, bp, bd, hb2, hb3, hb4, ⟨_, fin_order hf4 fin_24h⟩, hb5, ⟨_, fin_order hf5 fin_10s⟩, hbp, hbd, fin_trunc hfd⟩

/-! ### The laws of the duration -/
theorem RN_zero (c : Nat) : RN c 0 = 0 := by simp [RN, rungK, rne, valR]

theorem pr_le (L J : Nat) (hJ : J ≤ U) : RN 1074 (J * (sprN L * U)) ≤ sprN L * U :=
  (rep_U (sprN L) (by have := spr_bd L; omega)).le (by rw [Nat.mul_comm, ← U_eq]; exact Nat.mul_le_mul_left _ hJ)

theorem dur_zero (L : Nat) : durN L 0 = ageN L := by
  unfold durN
  rw [Nat.zero_mul, RN_zero, Nat.sub_zero]
  have := (rep_U (ageN L) (by have := age_bd L; omega)).exact 0
  rw [Nat.pow_zero, Nat.mul_one] at this
  rw [this, Nat.mul_div_cancel _ U_pos]

theorem dur_anti (L : Nat) {J J' : Nat} (h : J ≤ J') : durN L J' ≤ durN L J := by
  unfold durN
  have h1 := RN_mono 1074 (Nat.mul_le_mul_right (sprN L * U) h)
  exact Nat.div_le_div_right (RN_mono 0 (by omega))

theorem dur_le (L J : Nat) : durN L J ≤ ageN L := by
  have := dur_anti L (Nat.zero_le J)
  rwa [dur_zero] at this

theorem dur_ge (L J : Nat) (hJ : J ≤ U) : ageN L - sprN L ≤ durN L J := by
  unfold durN
  have h1 := pr_le L J hJ
  have hr := rep_U (ageN L - sprN L) (by have := age_bd L; omega)
  have h2 : (ageN L - sprN L) * U ≤ RN 0 (ageN L * U - RN 1074 (J * (sprN L * U))) := hr.ge (by
    rw [Nat.pow_zero, Nat.mul_one, Nat.sub_mul]; omega)
  have := Nat.div_le_div_right (c := U) h2
  rwa [Nat.mul_div_cancel _ U_pos] at this

theorem dur_mono (J : Nat) (hJ : J ≤ U) {L L' : Nat} (h : L ≤ L') : durN L J ≤ durN L' J := by
  have hUp := U_pos
  unfold durN
  refine Nat.div_le_div_right (RN_mono 0 ?_)
  have hp := pr_le L J hJ
  have hp' := pr_le L' J hJ
  rcases Nat.lt_or_ge L 1000 with hL | hL
  · obtain ⟨t, ht⟩ : ∃ t, min L' 1000 = L + t := ⟨min L' 1000 - L, by omega⟩
    rcases Nat.eq_zero_or_pos t with h0 | h0
    · have : L' = L := by omega
      subst this; exact Nat.le_refl _
    · have hS : sprN L' = sprN L + 10000000 * t := by unfold sprN; omega
      have hA : ageN L + 800000000 * t ≤ ageN L' := by unfold ageN; omega
      -- the floor of the product
      have hq1 : J * sprN L / U * U ≤ J * sprN L := Nat.div_mul_le_self _ _
      have hq2 : J * sprN L < (J * sprN L / U + 1) * U := by
        rw [Nat.mul_comm (J * sprN L / U + 1) U]; exact Nat.lt_mul_div_succ _ hUp
      have hqb : J * sprN L / U ≤ sprN L := by
        have := Nat.div_le_div_right (c := U) (Nat.mul_le_mul_right (sprN L) hJ)
        rwa [Nat.mul_div_cancel_left _ hUp] at this
      generalize J * sprN L / U = q at *
      have hsb := spr_bd L
      have htb : t ≤ 1000 := by omega
      have hlo : q * U ≤ RN 1074 (J * (sprN L * U)) := (rep_U q (by omega)).ge (by
        rw [← U_eq, ← Nat.mul_assoc]; exact Nat.mul_le_mul_right _ hq1)
      have hhi : RN 1074 (J * (sprN L' * U)) ≤ (q + 1 + 10000000 * t) * U := (rep_U (q + 1 + 10000000 * t) (by omega)).le (by
        rw [← U_eq, ← Nat.mul_assoc]
        refine Nat.mul_le_mul_right _ ?_
        rw [hS, Nat.mul_add, Nat.add_mul]
        have := Nat.mul_le_mul_right (10000000 * t) hJ
        rw [Nat.mul_comm U] at this
        omega)
      have e1 : (q + 1 + 10000000 * t) * U = q * U + (1 + 10000000 * t) * U := by rw [Nat.add_assoc, Nat.add_mul]
      have e2 : (1 + 10000000 * t) * U ≤ 800000000 * t * U := Nat.mul_le_mul_right _ (by omega)
      have e3 : ageN L * U + 800000000 * t * U ≤ ageN L' * U := by rw [← Nat.add_mul]; exact Nat.mul_le_mul_right _ hA
      omega
  · have hS : sprN L' = sprN L := by unfold sprN; omega
    have hA : ageN L * U ≤ ageN L' * U := Nat.mul_le_mul_right _ (by unfold ageN; omega)
    rw [hS]
    omega

end Go.Proofs.Qxb6630445a
