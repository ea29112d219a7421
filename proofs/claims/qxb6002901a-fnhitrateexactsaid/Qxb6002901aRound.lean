/-
  PLAIN LAWS on rounding to nearest, ties to even: of a quotient of naturals ('rne'), and of Ieee's 'nearest' in the range of the normal numbers.
-/
import Ieee.Arith
namespace Go.Proofs.Qxb6002901a
open Ieee

/-- n / g rounded to nearest, ties to even. -/
def rne (n g : Nat) : Nat := n / g + (g < 2 * (n % g) || (g == 2 * (n % g) && n / g % 2 == 1)).toNat

theorem rne_one (n : Nat) : rne n 1 = n := by
  unfold rne
  have : n % 1 = 0 := Nat.mod_one n
  rw [this, Nat.div_one]
  simp
theorem rne_scale (n g c : Nat) (hc : 0 < c) : rne (n * c) (g * c) = rne n g := by
  unfold rne
  rw [Nat.mul_div_mul_right n g hc, Nat.mul_mod_mul_right]
  have e1 : (g * c < 2 * (n % g * c)) = (g < 2 * (n % g)) := by
    rw [← Nat.mul_assoc]; simp only [Nat.mul_lt_mul_right hc]
  have e2 : (g * c == 2 * (n % g * c)) = (g == 2 * (n % g)) := by
    rw [← Nat.mul_assoc, Bool.eq_iff_iff, beq_iff_eq, beq_iff_eq]
    exact ⟨fun h => Nat.eq_of_mul_eq_mul_right hc h, fun h => congrArg (· * c) h⟩
  simp only [e1, e2]
theorem rne_ratio (n1 d1 n2 d2 : Nat) (h1 : 0 < d1) (h2 : 0 < d2) (h : n1 * d2 = n2 * d1) : rne n1 d1 = rne n2 d2 := by
  rw [← rne_scale n1 d1 d2 h2, ← rne_scale n2 d2 d1 h1, h, Nat.mul_comm d1 d2]
theorem rne_le (n g : Nat) : rne n g ≤ n / g + 1 := by
  unfold rne
  have := Bool.toNat_le (g < 2 * (n % g) || (g == 2 * (n % g) && n / g % 2 == 1))
  omega
theorem rne_ge (n g : Nat) : n / g ≤ rne n g := by unfold rne; omega
theorem rne_exact (a g : Nat) (hg : 0 < g) : rne (a * g) g = a := by
  have := rne_scale a 1 g hg
  rw [Nat.one_mul, rne_one] at this
  exact this
/-- Where a multiple of g lies above n, the rounded quotient does not pass it. -/
theorem rne_le_of (n g b : Nat) (hg : 0 < g) (h : n ≤ b * g) : rne n g ≤ b := by
  by_cases e : n = b * g
  · rw [e, rne_exact b g hg]; exact Nat.le_refl _
  · have hlt : n / g < b := Nat.div_lt_of_lt_mul (by rw [Nat.mul_comm]; omega)
    have := rne_le n g
    omega
theorem rne_ge_of (n g a : Nat) (hg : 0 < g) (h : a * g ≤ n) : a ≤ rne n g :=
  Nat.le_trans ((Nat.le_div_iff_mul_le hg).2 h) (rne_ge n g)
theorem rne_mono (n m g : Nat) (h : n ≤ m) : rne n g ≤ rne m g := by
  have hq : n / g ≤ m / g := Nat.div_le_div_right h
  by_cases e : n / g = m / g
  · have hn := Nat.div_add_mod n g
    have hm := Nat.div_add_mod m g
    rw [e] at hn
    have hr : n % g ≤ m % g := by omega
    unfold rne
    rw [e]
    by_cases c1 : g < 2 * (n % g)
    · have c2 : g < 2 * (m % g) := by omega
      simp [c1, c2]
    · by_cases c2 : g < 2 * (m % g)
      · have := Bool.toNat_le (decide (g < 2 * (n % g)) || (g == 2 * (n % g) && m / g % 2 == 1))
        simp only [c2, decide_true, Bool.true_or, Bool.toNat_true]
        omega
      · by_cases c3 : g = 2 * (n % g)
        · have c4 : g = 2 * (m % g) := by omega
          rw [show n % g = m % g by omega]
          exact Nat.le_refl _
        · have c5 : (g == 2 * (n % g)) = false := by rw [beq_eq_false_iff_ne]; exact c3
          simp [c1, c5]
  · have := rne_le n g
    have := rne_ge m g
    omega
/-- A quotient taken to some digits and one more, which is 1 where anything is left over, rounds as the quotient itself does. -/
theorem rne_sticky (X n d : Nat) (hn : 0 < n) : rne (2 * (X / n) + (X % n != 0).toNat) (2 ^ (d + 2)) = rne (2 * X) (n * 2 ^ (d + 2)) := by
  have hX := Nat.div_add_mod X n
  have hr := Nat.mod_lt X hn
  generalize X / n = q at *
  generalize X % n = r at *
  subst hX
  have hG : 0 < 2 ^ d := Nat.two_pow_pos d
  have hG2 : 2 ^ (d + 2) = 4 * 2 ^ d := by rw [Nat.pow_add]; omega
  rw [hG2]
  generalize 2 ^ d = G at *
  -- q = 2 * G * a + b
  have hq := Nat.div_add_mod q (2 * G)
  have hb := Nat.mod_lt q (show 0 < 2 * G by omega)
  generalize q / (2 * G) = a at *
  generalize q % (2 * G) = b at *
  subst hq
  have hs : (r != 0).toNat ≤ 1 := Bool.toNat_le _
  have hs0 : (r != 0).toNat = 0 ↔ r = 0 := by by_cases h : r = 0 <;> simp [h]
  generalize (r != 0).toNat = st at *
  -- the left quotient
  have eL : 2 * (2 * G * a + b) + st = 4 * G * a + (2 * b + st) := by
    have : 2 * (2 * G * a) = 4 * G * a := by rw [← Nat.mul_assoc, ← Nat.mul_assoc]
    omega
  have dL : (2 * (2 * G * a + b) + st) / (4 * G) = a := by
    rw [eL, Nat.mul_add_div (by omega), Nat.div_eq_of_lt (by omega)]; omega
  have mL : (2 * (2 * G * a + b) + st) % (4 * G) = 2 * b + st := by
    rw [eL, Nat.mul_add_mod, Nat.mod_eq_of_lt (by omega)]
  -- the right quotient
  have eR : 2 * (n * (2 * G * a + b) + r) = n * (4 * G) * a + 2 * (n * b + r) := by
    have h1 : n * (2 * G * a + b) = n * (2 * G * a) + n * b := Nat.mul_add _ _ _
    have h2 : n * (4 * G) * a = 2 * (n * (2 * G * a)) := by
      rw [Nat.mul_assoc n, show 4 * G * a = 2 * (2 * G * a) by rw [← Nat.mul_assoc, ← Nat.mul_assoc], Nat.mul_left_comm]
    omega
  have hbn : 2 * (n * b + r) < n * (4 * G) := by
    have : n * b + n ≤ n * (2 * G) := by rw [← Nat.mul_succ]; exact Nat.mul_le_mul_left n hb
    have h2 : n * (4 * G) = 2 * (n * (2 * G)) := by rw [show 4 * G = 2 * (2 * G) by omega, Nat.mul_left_comm]
    omega
  have hpos : 0 < n * (4 * G) := Nat.mul_pos hn (by omega)
  have dR : 2 * (n * (2 * G * a + b) + r) / (n * (4 * G)) = a := by
    rw [eR, Nat.mul_add_div hpos, Nat.div_eq_of_lt hbn]; omega
  have mR : 2 * (n * (2 * G * a + b) + r) % (n * (4 * G)) = 2 * (n * b + r) := by
    rw [eR, Nat.mul_add_mod, Nat.mod_eq_of_lt hbn]
  unfold rne
  rw [dL, mL, dR, mR]
  -- both tests agree
  have t1 : (4 * G < 2 * (2 * b + st)) ↔ (n * (4 * G) < 2 * (2 * (n * b + r))) := by
    have e : 2 * (2 * (n * b + r)) = n * (4 * b) + 4 * r := by
      have : n * (4 * b) = 4 * (n * b) := Nat.mul_left_comm n 4 b
      omega
    rw [e]
    constructor
    · intro h
      by_cases hbG : G < b
      · have : n * (4 * G) < n * (4 * b) := (Nat.mul_lt_mul_left hn).2 (by omega)
        omega
      · have hbe : b = G := by omega
        subst hbe
        have : r ≠ 0 := fun h0 => by have := hs0.2 h0; omega
        omega
    · intro h
      by_cases hbG : G ≤ b
      · by_cases hbe : b = G
        · subst hbe
          have : r ≠ 0 := by omega
          have : st ≠ 0 := fun h0 => this (hs0.1 h0)
          omega
        · omega
      · exfalso
        have : n * (4 * b) + n * 4 ≤ n * (4 * G) := by rw [← Nat.mul_add]; exact Nat.mul_le_mul_left n (by omega)
        omega
  have t2 : (4 * G = 2 * (2 * b + st)) ↔ (n * (4 * G) = 2 * (2 * (n * b + r))) := by
    have e : 2 * (2 * (n * b + r)) = n * (4 * b) + 4 * r := by
      have : n * (4 * b) = 4 * (n * b) := Nat.mul_left_comm n 4 b
      omega
    rw [e]
    constructor
    · intro h
      have hst : st = 0 := by omega
      have hr0 := hs0.1 hst
      have hbG : b = G := by omega
      rw [hbG, hr0]; rfl
    · intro h
      by_cases hbG : b = G
      · subst hbG
        have hr0 : r = 0 := by omega
        have := hs0.2 hr0
        omega
      · exfalso
        rcases Nat.lt_or_gt_of_ne hbG with hlt | hgt
        · have : n * (4 * b) + n * 4 ≤ n * (4 * G) := by rw [← Nat.mul_add]; exact Nat.mul_le_mul_left n (by omega)
          omega
        · have : n * (4 * G) < n * (4 * b) := (Nat.mul_lt_mul_left hn).2 (by omega)
          omega
  have t1' : decide (4 * G < 2 * (2 * b + st)) = decide (n * (4 * G) < 2 * (2 * (n * b + r))) := decide_eq_decide.2 t1
  have t2' : (4 * G == 2 * (2 * b + st)) = (n * (4 * G) == 2 * (2 * (n * b + r))) := by
    rw [Bool.eq_iff_iff, beq_iff_eq, beq_iff_eq]; exact t2
  rw [t1', t2']
end Go.Proofs.Qxb6002901a
