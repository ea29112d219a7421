/-
  PLAIN LAWS: float64(n), the sum and the quotient of such, as words.
-/
import Derived.Test.Qxb6002901aNear
namespace Go.Proofs.Qxb6002901a
open Ieee

/-- The word of float64(n). -/
def fl (n : Nat) : Nat := double.nearest false n 0
/-- A word of a number from 1 up: how far its exponent stands above that of 1. -/
def ex (r : Nat) : Nat := r / 4503599627370496 - 1023
/-- Its value, times 2^52. -/
def W (r : Nat) : Nat := M r * 2 ^ ex r
/-- The word of X / 2^52. -/
def nd (X : Nat) : Nat := double.nearest false X (-52)
/-- The words that come up: those of the numbers from 1 to below 2^100. -/
def Big (r : Nat) : Prop := 4607182418800017408 ≤ r ∧ r < 5057542381537067008

theorem big_M {r : Nat} (h : Big r) : 4503599627370496 ≤ M r ∧ M r < 9007199254740992 ∧ (ex r + 1022) * 4503599627370496 + M r = r ∧ E r = ex r + 1022 ∧ ex r < 100 := by
  have hm := M_normal r (by unfold Big at h; omega)
  have he : E r = ex r + 1022 := by unfold E ex; unfold Big at h; omega
  have hx : ex r < 100 := by unfold ex; unfold Big at h; omega
  rw [he] at hm
  exact ⟨hm.1, hm.2.1, hm.2.2, he, hx⟩
theorem W_log {r : Nat} (h : Big r) : W r ≠ 0 ∧ (W r).log2 = 52 + ex r := by
  obtain ⟨a, b, _⟩ := big_M h
  have h0 : M r ≠ 0 := by omega
  unfold W
  exact ⟨Nat.mul_ne_zero h0 (Nat.ne_of_gt (Nat.two_pow_pos _)), by rw [log2_mul_pow _ _ h0, log2_52 _ a b]⟩
theorem nd_W {r : Nat} (h : Big r) : nd (W r) = r := by
  obtain ⟨a, b, c, d, e⟩ := big_M h
  have hl := log2_52 _ a b
  unfold nd W
  rw [near_shift (M r) (ex r) (-52) (by omega) (by rw [hl]; omega) (by rw [hl]; omega)]
  have := near_M r (by unfold Big at h; omega) (by unfold Big at h; omega)
  rw [d] at this
  rw [show (-52 : Int) + (ex r : Int) = -1074 + ((ex r + 1022 : Nat) : Int) by omega]
  exact this
theorem nd_mono {X Y : Nat} (h : X ≤ Y) (h0 : 4503599627370496 ≤ X) (hY : Y < 2 ^ 200) : nd X ≤ nd Y := by
  have hX : 52 ≤ X.log2 := (Nat.le_log2 (by omega)).2 h0
  have hY' : Y.log2 < 200 := (Nat.log2_lt (by omega)).2 hY
  exact near_mono X Y (-52) h (by omega) (by omega) (by omega)
theorem W_lt {r : Nat} (h : Big r) : 4503599627370496 ≤ W r ∧ W r < 2 ^ 153 := by
  obtain ⟨a, b, c, d, e⟩ := big_M h
  obtain ⟨h0, hl⟩ := W_log h
  exact ⟨(Nat.le_log2 h0 (k := 52)).1 (by rw [hl]; omega), (Nat.log2_lt h0).1 (by rw [hl]; omega)⟩
theorem pow_500 : (2 : Nat) ^ 153 ≤ 2 ^ 200 := Nat.pow_le_pow_right (by decide) (by decide)
theorem pow_154 : 2 * (2 : Nat) ^ 153 ≤ 2 ^ 200 := by rw [← Nat.pow_succ']; exact Nat.pow_le_pow_right (by decide) (by decide)
theorem W_mono {r s : Nat} (hr : Big r) (hs : Big s) (h : r ≤ s) : W r ≤ W s := by
  rcases Nat.lt_or_eq_of_le h with h | h
  · have l := lt_scaled r s h
    obtain ⟨_, _, _, d1, _⟩ := big_M hr
    obtain ⟨_, _, _, d2, _⟩ := big_M hs
    have hE : E r ≤ E s := by unfold E; have := Nat.div_le_div_right (c := 4503599627370496) (Nat.le_of_lt h); omega
    rw [Nat.min_eq_left hE, Nat.sub_self, Nat.pow_zero, Nat.mul_one] at l
    unfold W
    have e : ex s = (E s - E r) + ex r := by omega
    rw [e, Nat.pow_add, ← Nat.mul_assoc]
    exact Nat.mul_le_mul_right _ (Nat.le_of_lt l)
  · rw [h]; exact Nat.le_refl _
theorem W_double {r : Nat} (h : Big r) : M (r + 4503599627370496) = M r ∧ ex (r + 4503599627370496) = ex r + 1 ∧ W (r + 4503599627370496) = 2 * W r := by
  have e1 : M (r + 4503599627370496) = M r := by unfold M; unfold Big at h; rw [if_neg (by omega), if_neg (by omega)]; omega
  have e2 : ex (r + 4503599627370496) = ex r + 1 := by unfold ex; unfold Big at h; omega
  refine ⟨e1, e2, ?_⟩
  unfold W
  rw [e1, e2, Nat.pow_succ, ← Nat.mul_assoc, Nat.mul_comm]
theorem nd_double {X : Nat} (h0 : 4503599627370496 ≤ X) (hX : X < 2 ^ 200) : nd (2 * X) = nd X + 4503599627370496 := by
  have h1 : 52 ≤ X.log2 := (Nat.le_log2 (by omega)).2 h0
  have h2 : X.log2 < 200 := (Nat.log2_lt (by omega)).2 hX
  exact near_double X (-52) (by omega) (by omega) (by omega)
/-- A number from 1 to below 2^99 has a word among 'Big'. -/
theorem nd_big {X : Nat} (h0 : 4503599627370496 ≤ X) (hX : X < 2 ^ 151) : Big (nd X) := by
  have h1 : 52 ≤ X.log2 := (Nat.le_log2 (by omega)).2 h0
  have h2 : X.log2 < 151 := (Nat.log2_lt (by omega)).2 hX
  have hb := R_bounds X (by omega)
  unfold Big nd
  rw [near X (-52) (by omega) (by omega) (by omega)]
  obtain ⟨a, ha⟩ : ∃ a : Nat, (-52 : Int) + X.log2 + 1022 = a := ⟨((-52 : Int) + X.log2 + 1022).toNat, by omega⟩
  rw [ha, Int.toNat_natCast]
  omega
/-- Where the number has at most 53 digits its word is exact. -/
theorem nd_exact (n k : Nat) (hn : 1 ≤ n) (h : n ≤ 9007199254740992) (hk : 52 ≤ k + n.log2) (hk2 : k + n.log2 < 151) : W (nd (n * 2 ^ k)) = n * 2 ^ k := by
  have h0 : n ≠ 0 := by omega
  have hl := log2_mul_pow n k h0
  have hne : n * 2 ^ k ≠ 0 := Nat.mul_ne_zero h0 (Nat.ne_of_gt (Nat.two_pow_pos _))
  have hge : 4503599627370496 ≤ n * 2 ^ k := (Nat.le_log2 hne (k := 52)).1 (by rw [hl]; omega)
  have hlt : n * 2 ^ k < 2 ^ 151 := (Nat.log2_lt hne).1 (by rw [hl]; omega)
  have hw : nd (n * 2 ^ k) = (k + n.log2 + 970) * 4503599627370496 + R n := by
    unfold nd
    rw [near _ (-52) hne (by rw [hl]; omega) (by rw [hl]; omega), R_scale n k h0, hl]
    rw [show ((-52 : Int) + ((n.log2 + k : Nat) : Int) + 1022).toNat = k + n.log2 + 970 by omega]
  by_cases c : n = 9007199254740992
  · subst c
    have hl53 : (9007199254740992 : Nat).log2 = 53 := (Nat.log2_eq_iff (by decide)).2 ⟨by decide, by decide⟩
    have hR : R 9007199254740992 = 4503599627370496 := by
      have := R_scale 4503599627370496 1 (by decide)
      rw [show (4503599627370496 : Nat) * 2 ^ 1 = 9007199254740992 from rfl] at this
      rw [this, R_small _ (by rw [log2_52 _ (by decide) (by decide)]; decide), log2_52 _ (by decide) (by decide)]

    rw [hR, hl53] at hw
    have hk0 : k + 53 + 970 + 1 = k + 1024 := by omega
    have eM : M (nd (9007199254740992 * 2 ^ k)) = 4503599627370496 := by rw [hw]; unfold M; rw [if_neg (by omega)]; omega
    have eE : ex (nd (9007199254740992 * 2 ^ k)) = k + 1 := by rw [hw]; unfold ex; omega
    unfold W
    rw [eM, eE, Nat.pow_succ, Nat.mul_comm (2 ^ k) 2, ← Nat.mul_assoc]
  · have hl52 : n.log2 ≤ 52 := by
      have := (Nat.log2_lt h0 (k := 53)).2 (by omega)
      omega
    have hR := R_small n hl52
    have hRl : R n < 9007199254740992 := by
      rw [hR]
      have a := @Nat.lt_log2_self n
      have : n * 2 ^ (52 - n.log2) < 2 ^ (n.log2 + 1) * 2 ^ (52 - n.log2) := (Nat.mul_lt_mul_right (Nat.two_pow_pos _)).2 a
      rw [← Nat.pow_add, show n.log2 + 1 + (52 - n.log2) = 53 by omega] at this
      omega
    have hRb := (R_bounds n h0).1
    have eM : M (nd (n * 2 ^ k)) = R n := by rw [hw]; unfold M; rw [if_neg (by omega)]; omega
    have eE : ex (nd (n * 2 ^ k)) = k + n.log2 - 52 := by rw [hw]; unfold ex; omega
    unfold W
    rw [eM, eE, hR, Nat.mul_assoc, ← Nat.pow_add, show 52 - n.log2 + (k + n.log2 - 52) = k by omega]

/-! ### float64(n) -/
theorem fl_zero : fl 0 = 0 := near_zero 0
theorem fl_nd (n : Nat) (hn : 1 ≤ n) (h : n < 18446744073709551616) : fl n = nd (n * 4503599627370496) := by
  have hl : n.log2 < 64 := (Nat.log2_lt (by omega)).2 h
  have := near_shift n 52 (-52) (by omega) (by omega) (by omega)
  unfold nd fl
  rw [show (-52 : Int) + ((52 : Nat) : Int) = 0 by omega] at this
  exact this.symm
theorem n52 (n : Nat) (hn : 1 ≤ n) (h : n < 18446744073709551616) : 4503599627370496 ≤ n * 4503599627370496 ∧ n * 4503599627370496 < 2 ^ 116 := by
  have : (2 : Nat) ^ 116 = 18446744073709551616 * 4503599627370496 := by decide
  omega
theorem pow_151 : (2 : Nat) ^ 116 ≤ 2 ^ 151 := by decide
theorem fl_big (n : Nat) (hn : 1 ≤ n) (h : n < 18446744073709551616) : Big (fl n) := by
  rw [fl_nd n hn h]
  have a := n52 n hn h
  exact nd_big a.1 (Nat.lt_of_lt_of_le a.2 pow_151)
theorem fl_mono (n m : Nat) (hn : 1 ≤ n) (h : n ≤ m) (hm : m < 18446744073709551616) : fl n ≤ fl m := by
  rw [fl_nd n hn (by omega), fl_nd m (by omega) hm]
  have a := n52 n hn (by omega)
  have b := n52 m (by omega) hm
  exact nd_mono (Nat.mul_le_mul_right _ h) a.1 (Nat.lt_of_lt_of_le b.2 (Nat.pow_le_pow_right (by decide) (by decide)))
theorem fl_double (n : Nat) (hn : 1 ≤ n) (h : n < 9223372036854775808) : fl (2 * n) = fl n + 4503599627370496 := by
  have hl : n.log2 < 64 := (Nat.log2_lt (by omega)).2 (by omega)
  exact near_double n 0 (by omega) (by omega) (by omega)
theorem fl_exact (n : Nat) (hn : 1 ≤ n) (h : n ≤ 9007199254740992) : W (fl n) = n * 4503599627370496 := by
  have hl : n.log2 < 64 := (Nat.log2_lt (by omega)).2 (by omega)
  rw [fl_nd n hn (by omega)]
  exact nd_exact n 52 hn h (by omega) (by omega)
theorem fl_top (n : Nat) (hn : 1 ≤ n) (h : n < 18446744073709551616) : W (fl n) ≤ 2 ^ 116 := by
  have b := fl_big n hn h
  obtain ⟨_, hl⟩ := W_log b
  have hw := fl_nd n hn h
  -- fl n ≤ nd (2^116)
  have a := n52 n hn h
  have hle : fl n ≤ nd (1 * 2 ^ 116) := by
    rw [hw]
    exact nd_mono (by omega) a.1 (by decide)
  have hb : Big (nd (1 * 2 ^ 116)) := nd_big (by decide) (by decide)
  have := W_mono b hb hle
  rw [nd_exact 1 116 (by decide) (by decide) (by decide) (by decide)] at this
  omega

/-! ### The sum -/
theorem add_eq (x y : Nat) (hx : Big x) (hy : Big y) (hs : W x + W y < 2 ^ 153) : double.add x y = some (nd (W x + W y)) := by
  obtain ⟨a1, b1, c1, d1, e1⟩ := big_M hx
  obtain ⟨a2, b2, c2, d2, e2⟩ := big_M hy
  unfold Format.add
  rw [read_eq x (by unfold Big at hx; omega), read_eq y (by unfold Big at hy; omega)]
  simp only [Datum.sum, signed, Bool.false_eq_true, if_false, Nat.shiftLeft_eq, Option.map_some, Format.write, Bool.and_false]
  have t1 : (-1074 + (E x : Int) - min (-1074 + (E x : Int)) (-1074 + (E y : Int))).toNat = ex x - min (ex x) (ex y) := by omega
  have t2 : (-1074 + (E y : Int) - min (-1074 + (E x : Int)) (-1074 + (E y : Int))).toNat = ex y - min (ex x) (ex y) := by omega
  rw [t1, t2, ← Int.natCast_add, Int.natAbs_natCast]
  have t3 : ¬ (((M x * 2 ^ (ex x - min (ex x) (ex y)) + M y * 2 ^ (ex y - min (ex x) (ex y)) : Nat) : Int) < 0) := by omega
  simp only [t3, decide_false, ite_self]
  refine congrArg some ?_
  have hm : min (-1074 + (E x : Int)) (-1074 + (E y : Int)) = -52 + ((min (ex x) (ex y) : Nat) : Int) := by omega
  rw [hm]
  have hW : W x + W y = (M x * 2 ^ (ex x - min (ex x) (ex y)) + M y * 2 ^ (ex y - min (ex x) (ex y))) * 2 ^ min (ex x) (ex y) := by
    unfold W
    rw [Nat.add_mul, Nat.mul_assoc, Nat.mul_assoc, ← Nat.pow_add, ← Nat.pow_add, show ex x - min (ex x) (ex y) + min (ex x) (ex y) = ex x by omega, show ex y - min (ex x) (ex y) + min (ex x) (ex y) = ex y by omega]
  have hp1 : 1 ≤ 2 ^ (ex x - min (ex x) (ex y)) := Nat.one_le_two_pow
  have hge : M x * 1 ≤ M x * 2 ^ (ex x - min (ex x) (ex y)) := Nat.mul_le_mul_left _ hp1
  obtain ⟨S, hS⟩ : ∃ S, S = M x * 2 ^ (ex x - min (ex x) (ex y)) + M y * 2 ^ (ex y - min (ex x) (ex y)) := ⟨_, rfl⟩
  rw [← hS] at hW ⊢
  have hS0 : S ≠ 0 := by omega
  have hS52 : 52 ≤ S.log2 := (Nat.le_log2 hS0).2 (by show 4503599627370496 ≤ S; omega)
  have hl := log2_mul_pow S (min (ex x) (ex y)) hS0
  have hlt : (S * 2 ^ min (ex x) (ex y)).log2 < 153 := (Nat.log2_lt (by rw [← hW]; have := (W_lt hx).1; omega)).2 (by rw [← hW]; exact hs)
  rw [hW]
  exact (near_shift S (min (ex x) (ex y)) (-52) hS0 (by omega) (by omega)).symm
theorem add_zero_left (y : Nat) (hy : Big y) : double.add 0 y = some y := by
  obtain ⟨a2, b2, c2, d2, e2⟩ := big_M hy
  have hl := log2_52 _ a2 b2
  have hr0 : double.read 0 = .number false 0 (-1074) := by decide
  unfold Format.add
  rw [hr0, read_eq y (by unfold Big at hy; omega)]
  simp only [Datum.sum, signed, Bool.false_eq_true, if_false, Nat.shiftLeft_eq, Option.map_some, Format.write, Bool.and_false, Nat.zero_mul]
  have t2 : (-1074 + (E y : Int) - min (-1074 : Int) (-1074 + (E y : Int))).toNat = E y := by omega
  rw [t2]
  simp only [Int.natCast_zero, Int.zero_add, Int.natAbs_natCast]
  have t3 : ¬ (((M y * 2 ^ E y : Nat) : Int) < 0) := by omega
  simp only [t3, decide_false, ite_self]
  refine congrArg some ?_
  have hm : min (-1074 : Int) (-1074 + (E y : Int)) = -1074 := by omega
  rw [hm, near_shift (M y) (E y) (-1074) (by omega) (by rw [hl]; omega) (by rw [hl]; omega)]
  exact near_M y (by unfold Big at hy; omega) (by unfold Big at hy; omega)
theorem add_zero_right (x : Nat) (hx : Big x) : double.add x 0 = some x := by
  obtain ⟨a2, b2, c2, d2, e2⟩ := big_M hx
  have hl := log2_52 _ a2 b2
  have hr0 : double.read 0 = .number false 0 (-1074) := by decide
  unfold Format.add
  rw [hr0, read_eq x (by unfold Big at hx; omega)]
  simp only [Datum.sum, signed, Bool.false_eq_true, if_false, Nat.shiftLeft_eq, Option.map_some, Format.write, Bool.and_false, Nat.zero_mul]
  have t2 : (-1074 + (E x : Int) - min (-1074 + (E x : Int)) (-1074 : Int)).toNat = E x := by omega
  rw [t2]
  simp only [Int.natCast_zero, Int.add_zero, Int.natAbs_natCast]
  have t3 : ¬ (((M x * 2 ^ E x : Nat) : Int) < 0) := by omega
  simp only [t3, decide_false, ite_self]
  refine congrArg some ?_
  have hm : min (-1074 + (E x : Int)) (-1074 : Int) = -1074 := by omega
  rw [hm, near_shift (M x) (E x) (-1074) (by omega) (by rw [hl]; omega) (by rw [hl]; omega)]
  exact near_M x (by unfold Big at hx; omega) (by unfold Big at hx; omega)
end Go.Proofs.Qxb6002901a
