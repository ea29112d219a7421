/-
  PLAIN LAWS: the hit rate as a long division of integers finds it.
-/
import Derived.Test.Qxb6002901aHit
namespace Go.Proofs.Qxb6002901a
open Ieee

theorem k_unique (h s k k' : Nat) (a : 4503599627370496 * s ≤ h * 2 ^ k) (b : h * 2 ^ k < 9007199254740992 * s) (a' : 4503599627370496 * s ≤ h * 2 ^ k') (b' : h * 2 ^ k' < 9007199254740992 * s) : k = k' := by
  have key : ∀ k k' : Nat, k < k' → 4503599627370496 * s ≤ h * 2 ^ k → h * 2 ^ k' < 9007199254740992 * s → False := by
    intro k k' hk a b
    obtain ⟨d, rfl⟩ : ∃ d, k' = k + 1 + d := ⟨k' - k - 1, by omega⟩
    have e : h * 2 ^ (k + 1 + d) = h * 2 ^ k * 2 * 2 ^ d := by rw [Nat.pow_add, Nat.pow_succ, ← Nat.mul_assoc, ← Nat.mul_assoc]
    have : h * 2 ^ k * 2 * 1 ≤ h * 2 ^ k * 2 * 2 ^ d := Nat.mul_le_mul_left _ Nat.one_le_two_pow
    omega
  rcases Nat.lt_trichotomy k k' with c | c | c
  · exact (key k k' c a b').elim
  · exact c
  · exact (key k' k c a' b).elim

theorem ac1 (x c s e i : Nat) : 2 * (x * c) * s * (e * i) = (x * i) * (s * e) * (2 * c) := by
  simp only [Nat.mul_assoc, Nat.mul_comm, Nat.mul_left_comm]
theorem ac2 (h A y B c i : Nat) : h * A * (y * B) * (c * i) = (h * c) * y * (A * B * i) := by
  simp only [Nat.mul_comm, Nat.mul_left_comm]
theorem ac3 (a y I T : Nat) : a * (y * I) * T = a * y * (T * I) := by
  simp only [Nat.mul_comm, Nat.mul_left_comm]

theorem hr_model (h m k : Nat) (h1 : 1 ≤ h) (hs : h + m ≤ 9007199254740992) (a : 4503599627370496 * (h + m) ≤ h * 2 ^ k) (b : h * 2 ^ k < 9007199254740992 * (h + m)) (hk : k ≤ 1000) :
    hr h m = (1074 - k) * 4503599627370496 + rne (h * 2 ^ k) (h + m) := by
  have bx := fl_big h h1 (by omega)
  obtain ⟨by', l⟩ := sm_big (m := m) h1 (by omega) (by omega)
  have wx := fl_exact h h1 (by omega)
  have wy := W_sm (m := m) h1 hs
  have he := ex_mono l
  obtain ⟨m1, m2, _, _, m5⟩ := big_M bx
  obtain ⟨n1, n2, _, _, n5⟩ := big_M by'
  obtain ⟨q0, q1, q2⟩ := Q_log (M (fl h)) (M (sm h m)) ⟨m1, m2⟩ ⟨n1, n2⟩
  have qa := Nat.log2_self_le q0
  have qb := @Nat.lt_log2_self (Q (M (fl h)) (M (sm h m)))
  unfold hr qw
  rw [if_neg (by omega), near _ _ q0 (by omega) (by omega)]
  unfold W at wx wy
  generalize M (fl h) = x at *
  generalize M (sm h m) = y at *
  generalize ex (fl h) = ix at *
  generalize ex (sm h m) = iy at *
  obtain ⟨s, hsd⟩ : ∃ s, s = h + m := ⟨_, rfl⟩
  rw [← hsd] at a b wy ⊢
  -- the digits that are dropped
  obtain ⟨d, hd⟩ : ∃ d, (Q x y).log2 = d + 2 + 52 := ⟨(Q x y).log2 - 54, by omega⟩
  have hR : R (Q x y) = rne (2 * (x * 18014398509481984)) (y * 2 ^ (d + 2)) := by
    unfold R
    rw [hd, show 52 - (d + 2 + 52) = 0 by omega, Nat.pow_zero, Nat.mul_one, show d + 2 + 52 - 52 = d + 2 by omega]
    exact rne_sticky (x * 18014398509481984) y d (by omega)
  -- the quotient lies between 2^52 and 2^53 of the units that are kept
  have hG : 0 < y * 2 ^ (d + 2) := Nat.mul_pos (by omega) (Nat.two_pow_pos _)
  have hst : (x * 18014398509481984 % y != 0).toNat ≤ 1 := Bool.toNat_le _
  have hX := Nat.div_add_mod (x * 18014398509481984) y
  have hXr := Nat.mod_lt (x * 18014398509481984) (show 0 < y by omega)
  rw [hd] at qa qb
  have e52 : 2 ^ (d + 2 + 52) = 4503599627370496 * 2 ^ (d + 2) := by rw [Nat.pow_add, Nat.mul_comm]
  have e53 : 2 ^ (d + 2 + 52 + 1) = 2 * (4503599627370496 * 2 ^ (d + 2)) := by rw [Nat.pow_succ, e52, Nat.mul_comm]
  rw [e52] at qa
  rw [e53] at qb
  have hG4 : 2 ^ (d + 2) = 4 * 2 ^ d := by rw [Nat.pow_add]; omega
  unfold Q at qa qb
  have lo : 4503599627370496 * (y * 2 ^ (d + 2)) ≤ 2 * (x * 18014398509481984) := by
    have t : 2251799813685248 * 2 ^ (d + 2) ≤ x * 18014398509481984 / y := by omega
    have t2 : y * (2251799813685248 * 2 ^ (d + 2)) ≤ y * (x * 18014398509481984 / y) := Nat.mul_le_mul_left _ t
    have t3 : 4503599627370496 * (y * 2 ^ (d + 2)) = 2 * (y * (2251799813685248 * 2 ^ (d + 2))) := by
      rw [Nat.mul_left_comm y, Nat.mul_left_comm 4503599627370496]
      have : 2 * (2251799813685248 * (y * 2 ^ (d + 2))) = 4503599627370496 * (y * 2 ^ (d + 2)) := by rw [← Nat.mul_assoc]
      rw [this, Nat.mul_left_comm]
    omega
  have hi : 2 * (x * 18014398509481984) < 9007199254740992 * (y * 2 ^ (d + 2)) := by
    have t : x * 18014398509481984 / y + 1 ≤ 4503599627370496 * 2 ^ (d + 2) := by omega
    have t2 : y * (x * 18014398509481984 / y + 1) ≤ y * (4503599627370496 * 2 ^ (d + 2)) := Nat.mul_le_mul_left _ t
    rw [Nat.mul_add, Nat.mul_one] at t2
    have t3 : 9007199254740992 * (y * 2 ^ (d + 2)) = 2 * (y * (4503599627370496 * 2 ^ (d + 2))) := by
      rw [Nat.mul_left_comm y, ← Nat.mul_assoc 2]
    omega
  -- the place of the last digit
  obtain ⟨k', hk'⟩ : ∃ k', k' + (d + 2) + ix = 55 + iy := ⟨55 + iy - (d + 2) - ix, by omega⟩
  have prop : 2 * (x * 18014398509481984) * s = h * 2 ^ k' * (y * 2 ^ (d + 2)) := by
    have c : 0 < 4503599627370496 * 2 ^ ix := Nat.mul_pos (by decide) (Nat.two_pow_pos _)
    refine Nat.eq_of_mul_eq_mul_right c ?_
    rw [ac1 x 18014398509481984 s 4503599627370496 (2 ^ ix), ac2 h (2 ^ k') y (2 ^ (d + 2)) 4503599627370496 (2 ^ ix), wx, ← wy, show (2 : Nat) * 18014398509481984 = 2 ^ 55 from rfl, ac3, ← Nat.pow_add, ← Nat.pow_add, ← Nat.pow_add, hk']
  have s0 : 0 < s := by omega
  have a' : 4503599627370496 * s ≤ h * 2 ^ k' := by
    have t := Nat.mul_le_mul_right s lo
    rw [prop] at t
    have t2 : 4503599627370496 * (y * 2 ^ (d + 2)) * s = 4503599627370496 * s * (y * 2 ^ (d + 2)) := Nat.mul_right_comm _ _ _
    rw [t2] at t
    exact Nat.le_of_mul_le_mul_right t hG
  have b' : h * 2 ^ k' < 9007199254740992 * s := by
    have t := (Nat.mul_lt_mul_right s0).2 hi
    rw [prop] at t
    have t2 : 9007199254740992 * (y * 2 ^ (d + 2)) * s = 9007199254740992 * s * (y * 2 ^ (d + 2)) := Nat.mul_right_comm _ _ _
    rw [t2] at t
    exact Nat.lt_of_mul_lt_mul_right t
  have ek := k_unique h s k k' a b a' b'
  subst ek
  have ep : ((ix : Int) - (iy : Int) - 55 + ((d + 2 + 52 : Nat) : Int) + 1022).toNat = 1074 - k := by omega
  rw [hR, rne_ratio _ _ (h * 2 ^ k) s hG s0 prop, hd, ep]

/-- One step of the long division. -/
theorem ld_step (h s t q rem : Nat) (e : q * s + rem = h * 2 ^ t) : 2 * q * s + 2 * rem = h * 2 ^ (t + 1) := by
  rw [Nat.pow_succ, ← Nat.mul_assoc, ← e, Nat.mul_assoc]
  omega
/-- The rounded quotient out of the division's guard digit and remainder. -/
theorem rne_of (n s q rem : Nat) (hs : 0 < s) (e : q * s + rem = n) (hr : rem < s) : rne n s = if s ≤ 2 * rem ∧ (2 * rem ≠ s ∨ q % 2 = 1) then q + 1 else q := by
  have hq : n / s = q := by rw [← e, Nat.mul_comm, Nat.mul_add_div hs, Nat.div_eq_of_lt hr]; omega
  have hm : n % s = rem := by rw [← e, Nat.mul_comm, Nat.mul_add_mod, Nat.mod_eq_of_lt hr]
  unfold rne
  rw [hq, hm]
  by_cases c1 : s < 2 * rem
  · rw [if_pos ⟨by omega, .inl (by omega)⟩]; simp [c1]
  · by_cases c2 : s = 2 * rem
    · by_cases c3 : q % 2 = 1
      · rw [if_pos ⟨by omega, .inr c3⟩]; simp [c2, c3]
      · rw [if_neg (fun h => by rcases h with ⟨_, h | h⟩ <;> omega)]; simp [c2, c3]
    · rw [if_neg (fun h => by omega)]
      have c4 : (s == 2 * rem) = false := by rw [beq_eq_false_iff_ne]; exact c2
      simp [c1, c4]
/-- float64(q) for a q of 53 digits. -/
theorem fl_53 (q : Nat) (h1 : 4503599627370496 ≤ q) (h2 : q < 9007199254740992) : fl q = 4836865999795912704 + q := by
  have hl := log2_52 q h1 h2
  unfold fl
  rw [near q 0 (by omega) (by rw [hl]; omega) (by rw [hl]; omega), R_small q (by omega), hl]
  rw [show (0 + ((52 : Nat) : Int) + 1022).toNat = 1074 by omega]
  simp
/-- A half, exact. -/
theorem div_two (r : Nat) (h1 : 9007199254740992 ≤ r) (h2 : r < 4953959590107545600) : double.div r 4611686018427387904 = some (r - 4503599627370496) := by
  obtain ⟨a, b, c⟩ := M_normal r (by omega)
  have eM : M 4611686018427387904 = 4503599627370496 := by unfold M; split <;> omega
  have eE : E 4611686018427387904 = 1023 := by unfold E; omega
  rw [div_eq r 4611686018427387904 (by omega) (by omega) (by omega) (by omega), eM, eE]
  have hQ : Q (M r) 4503599627370496 = M r * 2 ^ 3 := by
    unfold Q
    have e1 : M r * 18014398509481984 = M r * 4 * 4503599627370496 := (Nat.mul_assoc (M r) 4 4503599627370496).symm
    have e2 : M r * 4 * 4503599627370496 / 4503599627370496 = M r * 4 := Nat.mul_div_cancel _ (by decide)
    have e3 : M r * 4 * 4503599627370496 % 4503599627370496 = 0 := Nat.mul_mod_left _ _
    rw [e1, e2, e3]
    simp
    omega
  have hl := log2_52 (M r) a b
  rw [hQ, near_shift (M r) 3 _ (by omega) (by rw [hl]; omega) (by rw [hl]; omega), near (M r) _ (by omega) (by rw [hl]; omega) (by rw [hl]; omega), R_small _ (by omega), hl]
  refine congrArg some ?_
  simp only [Nat.sub_self, Nat.pow_zero, Nat.mul_one]
  rw [show ((E r : Int) - ((1023 : Nat) : Int) - 55 + ((3 : Nat) : Int) + ((52 : Nat) : Int) + 1022).toNat = E r - 1 by omega]
  have h3 : 1 ≤ E r := by unfold E; omega
  clear hQ hl eM eE
  obtain ⟨t, ht⟩ : ∃ t, E r = t + 1 := ⟨E r - 1, by omega⟩
  rw [ht] at c ⊢
  rw [Nat.add_mul, Nat.one_mul] at c
  rw [Nat.add_sub_cancel]
  exact (Nat.sub_eq_of_eq_add (c.symm.trans (Nat.add_right_comm _ _ _))).symm
end Go.Proofs.Qxb6002901a
