/-
  PLAIN LAWS: the quotient of two words.
-/
import Derived.Test.Qxb6002901aFloat
namespace Go.Proofs.Qxb6002901a
open Ieee

/-- The digits of a quotient of two significands, and one more. -/
def Q (m n : Nat) : Nat := 2 * (m * 18014398509481984 / n) + (m * 18014398509481984 % n != 0).toNat

theorem div_eq (x y : Nat) (hx : 4503599627370496 ≤ x) (hx2 : x < 9218868437227405312) (hy : 4503599627370496 ≤ y) (hy2 : y < 9218868437227405312) :
    double.div x y = some (double.nearest false (Q (M x) (M y)) ((E x : Int) - (E y : Int) - 55)) := by
  obtain ⟨a1, b1, c1⟩ := M_normal x hx
  obtain ⟨a2, b2, c2⟩ := M_normal y hy
  have l1 := log2_52 _ a1 b1
  have l2 := log2_52 _ a2 b2
  have hn : M y ≠ 0 := by omega
  unfold Format.div
  rw [read_eq x hx2, read_eq y hy2]
  have efb : double.fractionBits + 2 = 54 := rfl
  rw [efb]
  simp only [Datum.quotient, if_neg hn, l1, l2, Nat.shiftLeft_eq, Option.map_some, Format.write]
  refine congrArg some ?_
  have e54 : 54 + 52 - 52 = 54 := rfl
  have ep : (2 : Nat) ^ 54 = 18014398509481984 := rfl
  rw [e54, ep]
  have hp : (-1074 + (E x : Int) - (-1074 + (E y : Int)) - ((54 : Nat) : Int) - 1) = (E x : Int) - (E y : Int) - 55 := by omega
  rw [hp]
  rfl
theorem div_zero (y : Nat) (hy : 4503599627370496 ≤ y) (hy2 : y < 9218868437227405312) : double.div 0 y = some 0 := by
  obtain ⟨a2, b2, c2⟩ := M_normal y hy
  have hn : M y ≠ 0 := by omega
  have hr0 : double.read 0 = .number false 0 (-1074) := by decide
  unfold Format.div
  rw [hr0, read_eq y hy2]
  simp only [Datum.quotient, if_neg hn, Nat.shiftLeft_eq, Option.map_some, Format.write, Nat.zero_mul, Nat.zero_div, Nat.zero_mod]
  refine congrArg some ?_
  exact near_zero _

theorem Q_le (m n T : Nat) (hn : 0 < n) (h : m * 18014398509481984 ≤ T * n) : Q m n ≤ 2 * T := by
  unfold Q
  have hX := Nat.div_add_mod (m * 18014398509481984) n
  have hr := Nat.mod_lt (m * 18014398509481984) hn
  have hq : m * 18014398509481984 / n ≤ T := by
    have := Nat.div_le_div_right (c := n) h
    rwa [Nat.mul_div_cancel _ hn] at this
  by_cases e : m * 18014398509481984 / n = T
  · have hz : m * 18014398509481984 % n = 0 := by
      rw [e] at hX
      have : n * T = T * n := Nat.mul_comm _ _
      omega
    rw [e, hz]
    simp
  · have := Bool.toNat_le (m * 18014398509481984 % n != 0)
    omega
theorem Q_ge (m n T : Nat) (hn : 0 < n) (h : T * n ≤ m * 18014398509481984) : 2 * T ≤ Q m n := by
  unfold Q
  have := (Nat.le_div_iff_mul_le hn).2 h
  omega
theorem Q_bounds (m n : Nat) (hm : 4503599627370496 ≤ m ∧ m < 9007199254740992) (hn : 4503599627370496 ≤ n ∧ n < 9007199254740992) : 18014398509481984 ≤ Q m n ∧ Q m n ≤ 72057594037927936 := by
  exact ⟨Q_ge m n 9007199254740992 (by omega) (by omega), Q_le m n 36028797018963968 (by omega) (by omega)⟩
theorem Q_log (m n : Nat) (hm : 4503599627370496 ≤ m ∧ m < 9007199254740992) (hn : 4503599627370496 ≤ n ∧ n < 9007199254740992) : Q m n ≠ 0 ∧ 54 ≤ (Q m n).log2 ∧ (Q m n).log2 ≤ 56 := by
  obtain ⟨a, b⟩ := Q_bounds m n hm hn
  have h0 : Q m n ≠ 0 := by omega
  refine ⟨h0, (Nat.le_log2 h0).2 a, ?_⟩
  have := (Nat.log2_lt h0 (k := 57)).2 (by omega)
  omega
theorem near_pow (c : Nat) (p : Int) (h1 : -1022 ≤ p + c) (h2 : p + c ≤ 1022) : double.nearest false (2 ^ c) p = (p + c + 1023).toNat * 4503599627370496 := by
  have hl : (2 ^ c).log2 = c := (Nat.log2_eq_iff (Nat.ne_of_gt (Nat.two_pow_pos c))).2 ⟨Nat.le_refl _, by rw [Nat.pow_succ]; have := Nat.two_pow_pos c; omega⟩
  have hR : R (2 ^ c) = 4503599627370496 := by
    have h1 := R_scale 1 c (by decide)
    rw [Nat.one_mul] at h1
    rw [h1, R_small 1 (by decide)]
    decide
  rw [near _ p (Nat.ne_of_gt (Nat.two_pow_pos c)) (by rw [hl]; omega) (by rw [hl]; omega), hR, hl]
  obtain ⟨a, ha⟩ : ∃ a : Nat, p + c + 1022 = a := ⟨(p + c + 1022).toNat, by omega⟩
  rw [ha, show p + c + 1023 = ((a + 1 : Nat) : Int) by omega, Int.toNat_natCast, Int.toNat_natCast]
  omega

section
variable {x y : Nat}
/-- The quotient's word. -/
def qw (x y : Nat) : Nat := double.nearest false (Q (M x) (M y)) ((ex x : Int) - (ex y : Int) - 55)

theorem div_big (hx : Big x) (hy : Big y) : double.div x y = some (qw x y) := by
  have := big_M hx
  have := big_M hy
  unfold Big at hx hy
  rw [div_eq x y (by omega) (by omega) (by omega) (by omega)]
  unfold qw
  rw [show (E x : Int) - (E y : Int) - 55 = (ex x : Int) - (ex y : Int) - 55 by omega]
theorem ex_mono (h : x ≤ y) : ex x ≤ ex y := by
  unfold ex
  have := Nat.div_le_div_right (c := 4503599627370496) h
  omega
theorem qw_normal (hx : Big x) (hy : Big y) : 4503599627370496 ≤ qw x y := by
  have bx := big_M hx
  have by' := big_M hy
  obtain ⟨h0, h1, h2⟩ := Q_log (M x) (M y) ⟨bx.1, bx.2.1⟩ ⟨by'.1, by'.2.1⟩
  exact near_normal _ _ h0 (by omega) (by omega)
/-- The quotient is at most 1 / 2^k. -/
theorem qw_le (hx : Big x) (hy : Big y) (k : Nat) (hk : k ≤ 1) (hxy : x ≤ y) (h : W x * 2 ^ k ≤ W y) : qw x y ≤ (1023 - k) * 4503599627370496 := by
  have bx := big_M hx
  have by' := big_M hy
  have he := ex_mono hxy
  obtain ⟨h0, h1, h2⟩ := Q_log (M x) (M y) ⟨bx.1, bx.2.1⟩ ⟨by'.1, by'.2.1⟩
  obtain ⟨c, hc⟩ : ∃ c, c = 54 - k + (ex y - ex x) := ⟨_, rfl⟩
  have hT : M x * 18014398509481984 ≤ 2 ^ c * M y := by
    have e1 : M x * 18014398509481984 * 2 ^ (ex x + k) = (W x * 2 ^ k) * 2 ^ 54 := by
      unfold W
      rw [Nat.pow_add, ← Nat.mul_assoc, Nat.mul_right_comm (M x) 18014398509481984, Nat.mul_right_comm (M x * 2 ^ ex x) 18014398509481984]
    have e2 : 2 ^ c * M y * 2 ^ (ex x + k) = W y * 2 ^ 54 := by
      unfold W
      rw [Nat.mul_comm (2 ^ c), Nat.mul_assoc, Nat.mul_assoc, ← Nat.pow_add, ← Nat.pow_add, show c + (ex x + k) = ex y + 54 by omega]
    have : M x * 18014398509481984 * 2 ^ (ex x + k) ≤ 2 ^ c * M y * 2 ^ (ex x + k) := by rw [e1, e2]; exact Nat.mul_le_mul_right _ h
    exact Nat.le_of_mul_le_mul_right this (Nat.two_pow_pos _)
  have hq := Q_le (M x) (M y) (2 ^ c) (by omega) hT
  have hq' : Q (M x) (M y) ≤ 2 ^ (c + 1) := by rw [Nat.pow_succ, Nat.mul_comm]; exact hq
  have hl : (2 ^ (c + 1)).log2 = c + 1 := (Nat.log2_eq_iff (Nat.ne_of_gt (Nat.two_pow_pos _))).2 ⟨Nat.le_refl _, by rw [Nat.pow_succ 2 (c + 1)]; have := Nat.two_pow_pos (c + 1); omega⟩
  have hm := near_mono (Q (M x) (M y)) (2 ^ (c + 1)) ((ex x : Int) - (ex y : Int) - 55) hq' h0 (by omega) (by rw [hl]; omega)
  rw [near_pow (c + 1) _ (by omega) (by omega)] at hm
  rw [show ((ex x : Int) - (ex y : Int) - 55 + ((c + 1 : Nat) : Int) + 1023).toNat = 1023 - k by omega] at hm
  exact hm
/-- The quotient is at least 1 / 2^k. -/
theorem qw_ge (hx : Big x) (hy : Big y) (k : Nat) (hk : k ≤ 1) (hxy : x ≤ y) (h : W y ≤ W x * 2 ^ k) : (1023 - k) * 4503599627370496 ≤ qw x y := by
  have bx := big_M hx
  have by' := big_M hy
  have he := ex_mono hxy
  obtain ⟨h0, h1, h2⟩ := Q_log (M x) (M y) ⟨bx.1, bx.2.1⟩ ⟨by'.1, by'.2.1⟩
  obtain ⟨c, hc⟩ : ∃ c, c = 54 - k + (ex y - ex x) := ⟨_, rfl⟩
  have hT : 2 ^ c * M y ≤ M x * 18014398509481984 := by
    have e1 : M x * 18014398509481984 * 2 ^ (ex x + k) = (W x * 2 ^ k) * 2 ^ 54 := by
      unfold W
      rw [Nat.pow_add, ← Nat.mul_assoc, Nat.mul_right_comm (M x) 18014398509481984, Nat.mul_right_comm (M x * 2 ^ ex x) 18014398509481984]
    have e2 : 2 ^ c * M y * 2 ^ (ex x + k) = W y * 2 ^ 54 := by
      unfold W
      rw [Nat.mul_comm (2 ^ c), Nat.mul_assoc, Nat.mul_assoc, ← Nat.pow_add, ← Nat.pow_add, show c + (ex x + k) = ex y + 54 by omega]
    have : 2 ^ c * M y * 2 ^ (ex x + k) ≤ M x * 18014398509481984 * 2 ^ (ex x + k) := by rw [e1, e2]; exact Nat.mul_le_mul_right _ h
    exact Nat.le_of_mul_le_mul_right this (Nat.two_pow_pos _)
  have hq := Q_ge (M x) (M y) (2 ^ c) (by omega) hT
  have hq' : 2 ^ (c + 1) ≤ Q (M x) (M y) := by rw [Nat.pow_succ, Nat.mul_comm]; exact hq
  have hl : (2 ^ (c + 1)).log2 = c + 1 := (Nat.log2_eq_iff (Nat.ne_of_gt (Nat.two_pow_pos _))).2 ⟨Nat.le_refl _, by rw [Nat.pow_succ 2 (c + 1)]; have := Nat.two_pow_pos (c + 1); omega⟩
  have hm := near_mono (2 ^ (c + 1)) (Q (M x) (M y)) ((ex x : Int) - (ex y : Int) - 55) hq' (Nat.ne_of_gt (Nat.two_pow_pos _)) (by rw [hl]; omega) (by omega)
  rw [near_pow (c + 1) _ (by omega) (by omega)] at hm
  rw [show ((ex x : Int) - (ex y : Int) - 55 + ((c + 1 : Nat) : Int) + 1023).toNat = 1023 - k by omega] at hm
  exact hm
/-- The quotient is below 1 where it is at most 1 - 2^-53. -/
theorem qw_lt1 (hx : Big x) (hy : Big y) (hxy : x ≤ y) (h : W x * 9007199254740992 ≤ 9007199254740991 * W y) : qw x y < 4607182418800017408 := by
  have bx := big_M hx
  have by' := big_M hy
  have he := ex_mono hxy
  obtain ⟨h0, h1, h2⟩ := Q_log (M x) (M y) ⟨bx.1, bx.2.1⟩ ⟨by'.1, by'.2.1⟩
  obtain ⟨c, hc⟩ : ∃ c, c = 1 + (ex y - ex x) := ⟨_, rfl⟩
  have hT : M x * 18014398509481984 ≤ (9007199254740991 * 2 ^ c) * M y := by
    have e1 : M x * 18014398509481984 * 2 ^ ex x = (W x * 9007199254740992) * 2 := by
      unfold W
      rw [Nat.mul_right_comm (M x) 18014398509481984, Nat.mul_assoc (M x * 2 ^ ex x) 9007199254740992 2]
    have e2 : (9007199254740991 * 2 ^ c) * M y * 2 ^ ex x = 9007199254740991 * W y * 2 := by
      unfold W
      have : 2 ^ c * 2 ^ ex x = 2 ^ ex y * 2 := by rw [← Nat.pow_add, ← Nat.pow_succ, show c + ex x = ex y + 1 by omega]
      rw [Nat.mul_right_comm (9007199254740991 * 2 ^ c), Nat.mul_assoc 9007199254740991, this, Nat.mul_assoc 9007199254740991, Nat.mul_assoc 9007199254740991, Nat.mul_comm (2 ^ ex y * 2), ← Nat.mul_assoc (M y)]
    have : M x * 18014398509481984 * 2 ^ ex x ≤ (9007199254740991 * 2 ^ c) * M y * 2 ^ ex x := by rw [e1, e2]; exact Nat.mul_le_mul_right _ h
    exact Nat.le_of_mul_le_mul_right this (Nat.two_pow_pos _)
  have hq := Q_le (M x) (M y) (9007199254740991 * 2 ^ c) (by omega) hT
  have hq' : Q (M x) (M y) ≤ 9007199254740991 * 2 ^ (c + 1) := by rw [Nat.pow_succ, ← Nat.mul_assoc, Nat.mul_comm _ 2]; exact hq
  have hlm : (9007199254740991 : Nat).log2 = 52 := log2_52 _ (by decide) (by decide)
  have hl : (9007199254740991 * 2 ^ (c + 1)).log2 = 52 + (c + 1) := by rw [log2_mul_pow _ _ (by decide), hlm]
  have hm := near_mono (Q (M x) (M y)) (9007199254740991 * 2 ^ (c + 1)) ((ex x : Int) - (ex y : Int) - 55) hq' h0 (by omega) (by rw [hl]; omega)
  have hR : R 9007199254740991 = 9007199254740991 := by rw [R_small _ (by rw [hlm]; decide), hlm]
  rw [near_shift 9007199254740991 (c + 1) _ (by decide) (by rw [hlm]; omega) (by rw [hlm]; omega), near 9007199254740991 _ (by decide) (by rw [hlm]; omega) (by rw [hlm]; omega), hR, hlm] at hm
  rw [show ((ex x : Int) - (ex y : Int) - 55 + ((c + 1 : Nat) : Int) + ((52 : Nat) : Int) + 1022).toNat = 1021 by omega] at hm
  unfold qw
  omega
theorem qw_double (hx : Big x) (hy : Big y) : qw (x + 4503599627370496) (y + 4503599627370496) = qw x y := by
  obtain ⟨a1, b1, _⟩ := W_double hx
  obtain ⟨a2, b2, _⟩ := W_double hy
  unfold qw
  rw [a1, a2, b1, b2]
  rw [show ((ex x + 1 : Nat) : Int) - ((ex y + 1 : Nat) : Int) - 55 = (ex x : Int) - (ex y : Int) - 55 by omega]
end
end Go.Proofs.Qxb6002901a
