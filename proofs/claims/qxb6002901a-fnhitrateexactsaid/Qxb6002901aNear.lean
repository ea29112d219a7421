/-
  PLAIN LAWS on Ieee's words of 64 bits: 'nearest' among the normal numbers, 'read', 'order', 'add', 'div', in terms of naturals.
-/
import Derived.Test.Qxb6002901aRound
namespace Go.Proofs.Qxb6002901a
open Ieee

/-- The significand that 'nearest' keeps. -/
def R (mag : Nat) : Nat := rne (mag * 2 ^ (52 - mag.log2)) (2 ^ (mag.log2 - 52))

theorem cut_even (n drop : Nat) (h : drop ≤ n.log2 + 2) : Toward.even.cut false n drop = rne n (2 ^ drop) := by
  unfold Toward.cut rne
  have e : 1 <<< min drop (n.log2 + 2) = 2 ^ drop := by rw [Nat.min_eq_left h, Nat.shiftLeft_eq, Nat.one_mul]
  simp only [e]

theorem log2_mul_pow (m k : Nat) (h : m ≠ 0) : (m * 2 ^ k).log2 = m.log2 + k := by
  induction k with
  | zero => simp
  | succ k ih =>
    have h2 : m * 2 ^ k ≠ 0 := Nat.mul_ne_zero h (Nat.ne_of_gt (Nat.two_pow_pos k))
    rw [Nat.pow_succ, ← Nat.mul_assoc, Nat.mul_comm _ 2, Nat.log2_two_mul h2, ih]
    omega

theorem near_eq (mag : Nat) (place : Int) (h0 : mag ≠ 0) (h1 : -1022 ≤ place + mag.log2) (h2 : place + mag.log2 ≤ 1022) (h3 : R mag ≤ 9007199254740992) :
    double.nearest false mag place = (place + mag.log2 + 1022).toNat * 4503599627370496 + R mag := by
  have elp : double.leastPlace = -1074 := by decide
  have efb : double.fractionBits = 52 := rfl
  have ebi : double.binade = 4503599627370496 := by decide
  have ein : double.infRung = 9218868437227405312 := by decide
  unfold Format.nearest
  rw [if_neg h0]
  simp only [elp, efb, ebi, ein]
  have hmax : max (place + (mag.log2 : Int) - ((52 : Nat) : Int)) (-1074) = place + mag.log2 - 52 := by omega
  rw [hmax]
  have e1 : (place - (place + (mag.log2 : Int) - 52)).toNat = 52 - mag.log2 := by omega
  have e2 : (place + (mag.log2 : Int) - 52 - place).toNat = mag.log2 - 52 := by omega
  have e3 : (place + (mag.log2 : Int) - 52 - -1074).toNat = (place + mag.log2 + 1022).toNat := by omega
  rw [e1, e2, e3, Nat.shiftLeft_eq, cut_even _ _ (by rw [log2_mul_pow mag _ h0]; omega)]
  show double.word false (min ((place + (mag.log2 : Int) + 1022).toNat * 4503599627370496 + R mag) 9218868437227405312) = _
  unfold Format.word
  rw [if_neg (by simp)]
  exact Nat.min_eq_left (by omega)

theorem R_bounds (mag : Nat) (h0 : mag ≠ 0) : 4503599627370496 ≤ R mag ∧ R mag ≤ 9007199254740992 := by
  have a := Nat.log2_self_le h0
  have b := @Nat.lt_log2_self mag
  unfold R
  have hg : 0 < 2 ^ (mag.log2 - 52) := Nat.two_pow_pos _
  have e1 : 4503599627370496 * 2 ^ (mag.log2 - 52) = 2 ^ mag.log2 * 2 ^ (52 - mag.log2) := by
    rw [show (4503599627370496 : Nat) = 2 ^ 52 from rfl, ← Nat.pow_add, ← Nat.pow_add]
    congr 1
    omega
  have e2 : 9007199254740992 * 2 ^ (mag.log2 - 52) = 2 ^ (mag.log2 + 1) * 2 ^ (52 - mag.log2) := by
    rw [show (9007199254740992 : Nat) = 2 ^ 53 from rfl, ← Nat.pow_add, ← Nat.pow_add]
    congr 1
    omega
  exact ⟨rne_ge_of _ _ _ hg (by rw [e1]; exact Nat.mul_le_mul_right _ a), rne_le_of _ _ _ hg (by rw [e2]; exact Nat.mul_le_mul_right _ (Nat.le_of_lt b))⟩

theorem near (mag : Nat) (place : Int) (h0 : mag ≠ 0) (h1 : -1022 ≤ place + mag.log2) (h2 : place + mag.log2 ≤ 1022) :
    double.nearest false mag place = (place + mag.log2 + 1022).toNat * 4503599627370496 + R mag := near_eq mag place h0 h1 h2 (R_bounds mag h0).2

theorem R_scale (mag k : Nat) (h0 : mag ≠ 0) : R (mag * 2 ^ k) = R mag := by
  unfold R
  rw [log2_mul_pow mag k h0]
  refine rne_ratio _ _ _ _ (Nat.two_pow_pos _) (Nat.two_pow_pos _) ?_
  rw [Nat.mul_assoc, Nat.mul_assoc, Nat.mul_assoc, ← Nat.pow_add, ← Nat.pow_add, ← Nat.pow_add]
  congr 2
  omega
theorem R_small (mag : Nat) (h : mag.log2 ≤ 52) : R mag = mag * 2 ^ (52 - mag.log2) := by
  unfold R
  rw [show mag.log2 - 52 = 0 by omega, Nat.pow_zero, rne_one]

theorem near_shift (mag k : Nat) (place : Int) (h0 : mag ≠ 0) (h1 : -1022 ≤ place + k + mag.log2) (h2 : place + k + mag.log2 ≤ 1022) :
    double.nearest false (mag * 2 ^ k) place = double.nearest false mag (place + k) := by
  have hl := log2_mul_pow mag k h0
  have hne : mag * 2 ^ k ≠ 0 := Nat.mul_ne_zero h0 (Nat.ne_of_gt (Nat.two_pow_pos k))
  rw [near _ _ hne (by rw [hl]; omega) (by rw [hl]; omega), near mag (place + k) h0 h1 h2, R_scale mag k h0, hl]
  congr 3
  omega
theorem near_double (mag : Nat) (place : Int) (h0 : mag ≠ 0) (h1 : -1022 ≤ place + mag.log2) (h2 : place + mag.log2 ≤ 1021) :
    double.nearest false (2 * mag) place = double.nearest false mag place + 4503599627370496 := by
  have hl := Nat.log2_two_mul h0
  have hR : R (2 * mag) = R mag := by
    have := R_scale mag 1 h0
    rw [Nat.pow_one, Nat.mul_comm] at this
    exact this
  rw [near _ _ (by omega) (by rw [hl]; omega) (by rw [hl]; omega), near mag place h0 h1 (by omega), hR, hl]
  rw [show (place + ((mag.log2 + 1 : Nat) : Int) + 1022).toNat = (place + mag.log2 + 1022).toNat + 1 by omega]
  omega
theorem near_mono (m1 m2 : Nat) (place : Int) (h : m1 ≤ m2) (h0 : m1 ≠ 0) (h1 : -1022 ≤ place + m1.log2) (h2 : place + m2.log2 ≤ 1022) :
    double.nearest false m1 place ≤ double.nearest false m2 place := by
  have h0' : m2 ≠ 0 := by omega
  have hl : m1.log2 ≤ m2.log2 := (Nat.le_log2 h0').2 (Nat.le_trans (Nat.log2_self_le h0) h)
  rw [near m1 place h0 h1 (by omega), near m2 place h0' (by omega) h2]
  by_cases e : m1.log2 = m2.log2
  · have : R m1 ≤ R m2 := by
      unfold R
      rw [e]
      exact rne_mono _ _ _ (Nat.mul_le_mul_right _ h)
    rw [e]
    omega
  · have b1 := R_bounds m1 h0
    have b2 := R_bounds m2 h0'
    obtain ⟨a1, ha1⟩ : ∃ a1 : Nat, place + m1.log2 + 1022 = a1 := ⟨(place + m1.log2 + 1022).toNat, by omega⟩
    obtain ⟨a2, ha2⟩ : ∃ a2 : Nat, place + m2.log2 + 1022 = a2 := ⟨(place + m2.log2 + 1022).toNat, by omega⟩
    rw [ha1, ha2, Int.toNat_natCast, Int.toNat_natCast]
    omega
theorem near_normal (mag : Nat) (place : Int) (h0 : mag ≠ 0) (h1 : -1022 ≤ place + mag.log2) (h2 : place + mag.log2 ≤ 1022) :
    4503599627370496 ≤ double.nearest false mag place := by
  rw [near mag place h0 h1 h2]
  have := R_bounds mag h0
  omega
theorem near_zero (place : Int) : double.nearest false 0 place = 0 := by
  unfold Format.nearest Format.word
  simp

/-! ### Reading -/
/-- A word's significand and exponent. -/
def M (r : Nat) : Nat := if r < 4503599627370496 then r else 4503599627370496 + r % 4503599627370496
def E (r : Nat) : Nat := r / 4503599627370496 - 1

theorem read_eq (r : Nat) (h : r < 9218868437227405312) : double.read r = .number false (M r) (-1074 + (E r : Int)) := by
  have elp : double.leastPlace = -1074 := by decide
  have ebi : double.binade = 4503599627370496 := by decide
  have ein : double.infRung = 9218868437227405312 := by decide
  have esw : double.signWeight = 9223372036854775808 := by decide
  unfold Format.read
  simp only [elp, ebi, ein, esw]
  have e1 : r / 9223372036854775808 % 2 = 0 := by omega
  have e2 : r % 9223372036854775808 = r := by omega
  rw [e1, e2]
  have e3 : ((0 : Nat) == 1) = false := rfl
  rw [e3]
  unfold M E
  by_cases c : r < 4503599627370496
  · rw [if_pos c, if_pos c]
    congr 1
    omega
  · rw [if_neg c, if_neg c, if_pos h]

theorem M_normal (r : Nat) (h : 4503599627370496 ≤ r) : 4503599627370496 ≤ M r ∧ M r < 9007199254740992 ∧ E r * 4503599627370496 + M r = r := by
  unfold M E
  rw [if_neg (by omega)]
  omega
theorem log2_52 (m : Nat) (h1 : 4503599627370496 ≤ m) (h2 : m < 9007199254740992) : m.log2 = 52 := (Nat.log2_eq_iff (by omega)).2 ⟨h1, h2⟩

theorem near_M (r : Nat) (h : 4503599627370496 ≤ r) (h2 : r < 9213000000000000000) : double.nearest false (M r) (-1074 + (E r : Int)) = r := by
  obtain ⟨a, b, c⟩ := M_normal r h
  have hl := log2_52 (M r) a b
  rw [near (M r) _ (by omega) (by rw [hl]; omega) (by rw [hl]; omega), R_small (M r) (by omega), hl]
  simp only [Nat.sub_self, Nat.pow_zero, Nat.mul_one]
  rw [show (-1074 + (E r : Int) + ((52 : Nat) : Int) + 1022).toNat = E r by omega]
  exact c

theorem shl0 (m : Nat) : m <<< 0 = m := rfl
theorem lt_scaled (x y : Nat) (h : x < y) : M x * 2 ^ (E x - min (E x) (E y)) < M y * 2 ^ (E y - min (E x) (E y)) := by
  have hE : E x ≤ E y := by unfold E; have := Nat.div_le_div_right (c := 4503599627370496) (Nat.le_of_lt h); omega
  rw [Nat.min_eq_left hE, Nat.sub_self, Nat.pow_zero, Nat.mul_one]
  by_cases e : E x = E y
  · rw [e, Nat.sub_self, Nat.pow_zero, Nat.mul_one]
    unfold E at e
    unfold M
    split <;> split <;> omega
  · have hy : 4503599627370496 ≤ y := by unfold E at e hE; omega
    have hMy := (M_normal y hy).1
    have hMx : M x < 9007199254740992 := by unfold M; split <;> omega
    obtain ⟨d, hd⟩ : ∃ d, E y - E x = d + 1 := ⟨E y - E x - 1, by omega⟩
    rw [hd, Nat.pow_succ]
    have hp : 1 ≤ 2 ^ d := Nat.one_le_two_pow
    have : M y * 1 ≤ M y * 2 ^ d := Nat.mul_le_mul_left _ hp
    have e2 : M y * (2 ^ d * 2) = M y * 2 ^ d * 2 := (Nat.mul_assoc _ _ _).symm
    omega

theorem order_eq (x y : Nat) (hx : x < 9218868437227405312) (hy : y < 9218868437227405312) : double.order x y = some (compare x y) := by
  unfold Format.order
  rw [read_eq x hx, read_eq y hy]
  simp only [Datum.order, signed, Bool.false_eq_true, if_false, Nat.shiftLeft_eq]
  have e1 : (-1074 + (E x : Int) - min (-1074 + (E x : Int)) (-1074 + (E y : Int))).toNat = E x - min (E x) (E y) := by omega
  have e2 : (-1074 + (E y : Int) - min (-1074 + (E x : Int)) (-1074 + (E y : Int))).toNat = E y - min (E x) (E y) := by omega
  rw [e1, e2]
  congr 1
  rcases Nat.lt_trichotomy x y with h | h | h
  · rw [Nat.compare_eq_lt.2 h]
    have := lt_scaled x y h
    exact Int.compare_eq_lt.2 (by exact_mod_cast this)
  · subst h
    rw [Nat.compare_eq_eq.2 rfl]
    exact Int.compare_eq_eq.2 (by simp)
  · rw [Nat.compare_eq_gt.2 h]
    have := lt_scaled y x h
    rw [Nat.min_comm] at this
    exact Int.compare_eq_gt.2 (by exact_mod_cast this)
end Go.Proofs.Qxb6002901a
