/-
  Rounding to nearest even of IEEE doubles, as plain arithmetic on natural numbers: the rung is monotone, and a number that the format has is kept. No Go in sight.
-/
import Ieee.Arith
namespace Go.Proofs.Qxb6630445a
open Ieee

/-- 'n / 2 ^ k' to the nearest, ties to even -/
def rne (n k : Nat) : Nat := n / 2 ^ k + (if 2 ^ k < 2 * (n % 2 ^ k) ∨ (2 ^ k = 2 * (n % 2 ^ k) ∧ n / 2 ^ k % 2 = 1) then 1 else 0)
/-- the rung of 'm * 2 ^ -(1074 + c)' -/
def rungK (c m : Nat) : Nat := (max (m.log2 - 52) c - c) * 2 ^ 52 + rne m (max (m.log2 - 52) c)
/-- what a rung stands for, in units of 2 ^ -1074 -/
def valR (r : Nat) : Nat := if r < 2 ^ 52 then r else (2 ^ 52 + r % 2 ^ 52) * 2 ^ (r / 2 ^ 52 - 1)

theorem two_pow_pos' (k : Nat) : 0 < 2 ^ k := Nat.two_pow_pos k

theorem rne_mono {n n' : Nat} (k : Nat) (h : n ≤ n') : rne n k ≤ rne n' k := by
  have hp := two_pow_pos' k
  unfold rne
  generalize 2 ^ k = g at *
  have ha : n / g ≤ n' / g := Nat.div_le_div_right h
  rcases Nat.lt_or_ge (n / g) (n' / g) with hlt | hge
  · split <;> split <;> omega
  · have e : n / g = n' / g := by omega
    have h1 := Nat.div_add_mod n g
    have h2 := Nat.div_add_mod n' g
    rw [e] at h1
    have hb : n % g ≤ n' % g := by omega
    rw [e]
    split
    · rename_i c1
      split
      · omega
      · rename_i c2; exfalso; apply c2
        have hl := Nat.mod_lt n' hp
        rcases c1 with c1 | ⟨c1, c3⟩
        · left; omega
        · rcases Nat.lt_or_ge g (2 * (n' % g)) with q | q
          · left; exact q
          · right; exact ⟨by omega, c3⟩
    · split <;> omega

theorem rne_exact (a k : Nat) : rne (a * 2 ^ k) k = a := by
  have hp := two_pow_pos' k
  unfold rne
  rw [Nat.mul_div_cancel _ hp, Nat.mul_mod_left]
  rw [if_neg]; · rfl
  intro h; rcases h with h | ⟨h, _⟩ <;> omega

theorem rne_shift (n k s : Nat) : rne (n * 2 ^ s) (k + s) = rne n k := by
  have hp := two_pow_pos' s
  unfold rne
  rw [Nat.pow_add, Nat.mul_div_mul_right _ _ hp, Nat.mul_mod_mul_right]
  have e1 : (2 ^ k * 2 ^ s < 2 * (n % 2 ^ k * 2 ^ s)) ↔ (2 ^ k < 2 * (n % 2 ^ k)) := by
    rw [← Nat.mul_assoc]; exact Nat.mul_lt_mul_right hp
  have e2 : (2 ^ k * 2 ^ s = 2 * (n % 2 ^ k * 2 ^ s)) ↔ (2 ^ k = 2 * (n % 2 ^ k)) := by
    rw [← Nat.mul_assoc]; exact Nat.mul_right_cancel_iff hp
  simp only [e1, e2]

theorem rne_le (n k t : Nat) (h : n < t * 2 ^ k) : rne n k ≤ t := by
  have := rne_mono k (Nat.le_of_lt h)
  rwa [rne_exact] at this

theorem cut_even (neg : Bool) (n drop : Nat) : Toward.even.cut neg n drop = rne n drop := by
  have key : ∀ g : Nat, (n / g + (decide (g < 2 * (n % g)) || (g == 2 * (n % g) && n / g % 2 == 1)).toNat) = n / g + (if g < 2 * (n % g) ∨ (g = 2 * (n % g) ∧ n / g % 2 = 1) then 1 else 0) := by
    intro g
    congr 1
    by_cases c : g < 2 * (n % g) ∨ (g = 2 * (n % g) ∧ n / g % 2 = 1)
    · rw [if_pos c]
      have : (decide (g < 2 * (n % g)) || (g == 2 * (n % g) && n / g % 2 == 1)) = true := by
        simpa using c
      rw [this]; rfl
    · rw [if_neg c]
      have : (decide (g < 2 * (n % g)) || (g == 2 * (n % g) && n / g % 2 == 1)) = false := by
        rw [Bool.eq_false_iff]; intro e; exact c (by simpa using e)
      rw [this]; rfl
  unfold Toward.cut rne
  simp only [Nat.one_shiftLeft]
  rcases Nat.lt_or_ge drop (n.log2 + 2) with h | h
  · rw [Nat.min_eq_left (by omega)]
    exact key _
  · rw [Nat.min_eq_right h]
    rw [key]
    have hn : n < 2 ^ (n.log2 + 1) := Nat.lt_log2_self
    have hg : 2 ^ (n.log2 + 2) = 2 * 2 ^ (n.log2 + 1) := by rw [Nat.pow_succ]; omega
    have hd : 2 ^ (n.log2 + 2) ≤ 2 ^ drop := Nat.pow_le_pow_right (by omega) h
    rw [Nat.div_eq_of_lt (by omega), Nat.mod_eq_of_lt (by omega), Nat.div_eq_of_lt (show n < 2 ^ drop by omega), Nat.mod_eq_of_lt (show n < 2 ^ drop by omega)]
    rw [if_neg (by omega), if_neg (by omega)]

theorem log2_shift (m s : Nat) (h : m ≠ 0) : (m * 2 ^ s).log2 = m.log2 + s := by
  have hp := two_pow_pos' s
  have hne : m * 2 ^ s ≠ 0 := Nat.mul_ne_zero h (by omega)
  rw [Nat.log2_eq_iff hne]
  constructor
  · rw [Nat.pow_add]; exact Nat.mul_le_mul_right _ (Nat.log2_self_le h)
  · rw [show m.log2 + s + 1 = (m.log2 + 1) + s by omega, Nat.pow_add]
    exact Nat.mul_lt_mul_of_pos_right Nat.lt_log2_self hp

theorem log2_mono {m m' : Nat} (h : m ≤ m') : m.log2 ≤ m'.log2 := by
  rcases Nat.eq_zero_or_pos m with e | e
  · subst e; simp
  · have h1 : m.log2 < m'.log2 + 1 := (Nat.log2_lt (by omega)).2 (Nat.lt_of_le_of_lt h Nat.lt_log2_self)
    omega

theorem rung_mono (c : Nat) {m m' : Nat} (h : m ≤ m') : rungK c m ≤ rungK c m' := by
  have hl := log2_mono h
  unfold rungK
  generalize hd : max (m.log2 - 52) c = d
  generalize hd' : max (m'.log2 - 52) c = d'
  rcases Nat.lt_or_ge d d' with hlt | hge
  · have e' : d' = m'.log2 - 52 := by omega
    have h52 : 52 < m'.log2 := by omega
    have hm' : m' ≠ 0 := by intro e; subst e; simp at h52
    have hlo : 2 ^ 52 * 2 ^ d' ≤ m' := by
      rw [← Nat.pow_add, e', show 52 + (m'.log2 - 52) = m'.log2 by omega]; exact Nat.log2_self_le hm'
    have hr' : 2 ^ 52 ≤ rne m' d' := by
      have := rne_mono d' hlo; rwa [rne_exact] at this
    have hup : m < 2 ^ 53 * 2 ^ d := by
      rw [← Nat.pow_add]
      exact Nat.lt_of_lt_of_le Nat.lt_log2_self (Nat.pow_le_pow_right (by omega) (by omega))
    have hr : rne m d ≤ 2 ^ 53 := rne_le m d _ hup
    have : (d - c) * 2 ^ 52 + 2 ^ 52 ≤ (d' - c) * 2 ^ 52 := by
      have : (d - c + 1) * 2 ^ 52 ≤ (d' - c) * 2 ^ 52 := Nat.mul_le_mul_right _ (by omega)
      omega
    omega
  · have e : d = d' := by omega
    subst e
    have := rne_mono d h
    omega

theorem rung_val (c r : Nat) : rungK c (valR r * 2 ^ c) = r := by
  unfold valR
  split
  · rename_i h
    unfold rungK
    rcases Nat.eq_zero_or_pos r with e | e
    · subst e; simp [rne]
    · have hl : (r * 2 ^ c).log2 = r.log2 + c := log2_shift r c (by omega)
      have h51 : r.log2 < 52 := (Nat.log2_lt (by omega)).2 h
      rw [hl, show max (r.log2 + c - 52) c = c by omega, rne_exact]
      simp
  · rename_i h
    have hq : 1 ≤ r / 2 ^ 52 := (Nat.le_div_iff_mul_le (by decide)).2 (by omega)
    have hm := Nat.mod_lt r (show 0 < 2 ^ 52 by decide)
    have hdm := Nat.div_add_mod r (2 ^ 52)
    generalize hg : 2 ^ 52 + r % 2 ^ 52 = mag at *
    generalize he : r / 2 ^ 52 - 1 = e at *
    have hlm : mag.log2 = 52 := (Nat.log2_eq_iff (by omega)).2 ⟨by omega, by omega⟩
    unfold rungK
    rw [Nat.mul_assoc, ← Nat.pow_add, log2_shift mag _ (by omega), hlm, show max (52 + (e + c) - 52) c = e + c by omega, rne_exact]
    have : e + c - c = e := by omega
    rw [this]
    have h1 : r / 2 ^ 52 = e + 1 := by omega
    rw [h1] at hdm
    omega

theorem val_mono {r r' : Nat} (h : r ≤ r') : valR r ≤ valR r' := by
  rcases Nat.lt_or_ge (valR r') (valR r) with hlt | hge
  · have h1 := rung_mono 0 (Nat.le_of_lt hlt)
    have e1 := rung_val 0 r
    have e2 := rung_val 0 r'
    simp only [Nat.pow_zero, Nat.mul_one] at e1 e2
    rw [e1, e2] at h1
    have : r = r' := by omega
    subst this; omega
  · exact hge

/-- rounded, in units of 2 ^ -1074 -/
def RN (c m : Nat) : Nat := valR (rungK c m)

theorem RN_mono (c : Nat) {m m' : Nat} (h : m ≤ m') : RN c m ≤ RN c m' := val_mono (rung_mono c h)
theorem RN_val (c r : Nat) : RN c (valR r * 2 ^ c) = valR r := by unfold RN; rw [rung_val]

/-- the format has this number (below infinity) -/
def Rep (X : Nat) : Prop := ∃ r, r < 2047 * 2 ^ 52 ∧ valR r = X

theorem Rep.exact {X : Nat} (h : Rep X) (c : Nat) : RN c (X * 2 ^ c) = X := by
  obtain ⟨r, _, rfl⟩ := h; exact RN_val c r
theorem Rep.le {X : Nat} (h : Rep X) {c m : Nat} (hm : m ≤ X * 2 ^ c) : RN c m ≤ X := by
  have := RN_mono c hm; rwa [h.exact] at this
theorem Rep.ge {X : Nat} (h : Rep X) {c m : Nat} (hm : X * 2 ^ c ≤ m) : X ≤ RN c m := by
  have := RN_mono c hm; rwa [h.exact] at this
theorem Rep.lt_inf {X : Nat} (h : Rep X) {c m : Nat} (hm : m ≤ X * 2 ^ c) : rungK c m < 2047 * 2 ^ 52 := by
  obtain ⟨r, hr, rfl⟩ := h
  have := rung_mono c hm
  rw [rung_val] at this
  omega

theorem rep_mk (n e : Nat) (hn : n < 2 ^ 53) (he : e ≤ 1900) : Rep (n * 2 ^ e) := by
  rcases Nat.lt_or_ge (n * 2 ^ e) (2 ^ 52) with h | h
  · exact ⟨n * 2 ^ e, by omega, by unfold valR; rw [if_pos h]⟩
  · have hn0 : n ≠ 0 := by intro e0; subst e0; simp at h
    have hl : (n * 2 ^ e).log2 = n.log2 + e := log2_shift n e hn0
    have hl52 : n.log2 ≤ 52 := by have := (Nat.log2_lt hn0).2 hn; omega
    have hge : 52 ≤ n.log2 + e := by
      rw [← hl]
      have := log2_mono h
      rwa [Nat.log2_two_pow] at this
    -- the significand
    have e1 : n * 2 ^ e = n * 2 ^ (52 - n.log2) * 2 ^ (n.log2 + e - 52) := by
      rw [Nat.mul_assoc, ← Nat.pow_add]; congr 2; omega
    have hlm : (n * 2 ^ (52 - n.log2)).log2 = 52 := by rw [log2_shift n _ hn0]; omega
    have hne : n * 2 ^ (52 - n.log2) ≠ 0 := Nat.mul_ne_zero hn0 (by have := two_pow_pos' (52 - n.log2); omega)
    have hb := (Nat.log2_eq_iff hne).1 hlm
    rw [e1]
    generalize n * 2 ^ (52 - n.log2) = mag at *
    generalize hf : n.log2 + e - 52 = f at *
    refine ⟨(f + 1) * 2 ^ 52 + (mag - 2 ^ 52), ?_, ?_⟩
    · have : (f + 1) * 2 ^ 52 ≤ 1901 * 2 ^ 52 := Nat.mul_le_mul_right _ (by omega)
      omega
    · have hlt : mag - 2 ^ 52 < 2 ^ 52 := by omega
      unfold valR
      have hdiv : ((f + 1) * 2 ^ 52 + (mag - 2 ^ 52)) / 2 ^ 52 = f + 1 := by
        rw [Nat.add_comm, Nat.add_mul_div_right _ _ (by decide), Nat.div_eq_of_lt hlt]; omega
      have hmod : ((f + 1) * 2 ^ 52 + (mag - 2 ^ 52)) % 2 ^ 52 = mag - 2 ^ 52 := by
        rw [Nat.add_comm, Nat.add_mul_mod_self_right, Nat.mod_eq_of_lt hlt]
      rw [hdiv, hmod, if_neg (by omega), show 2 ^ 52 + (mag - 2 ^ 52) = mag by omega, Nat.add_sub_cancel]

end Go.Proofs.Qxb6630445a
