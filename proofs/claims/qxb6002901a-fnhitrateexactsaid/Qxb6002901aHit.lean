/-
  PLAIN LAWS: the hit rate as a word, and what holds of it.
-/
import Derived.Test.Qxb6002901aQuo
namespace Go.Proofs.Qxb6002901a
open Ieee

/-- The word of float64(h) + float64(m). -/
def sm (h m : Nat) : Nat := if m = 0 then fl h else nd (W (fl h) + W (fl m))
/-- The word of the hit rate. -/
def hr (h m : Nat) : Nat := if h = 0 then 0 else qw (fl h) (sm h m)

section
variable {h m : Nat}
theorem pow_117 : (2 : Nat) ^ 116 + 2 ^ 116 < 2 ^ 151 := by decide
theorem sum_lt (h1 : 1 ≤ h) (h2 : h < 18446744073709551616) (m1 : 1 ≤ m) (m2 : m < 18446744073709551616) : W (fl h) + W (fl m) < 2 ^ 151 := by
  have a := fl_top h h1 h2
  have b := fl_top m m1 m2
  have := pow_117
  omega
theorem sm_big (h1 : 1 ≤ h) (h2 : h < 18446744073709551616) (m2 : m < 18446744073709551616) : Big (sm h m) ∧ fl h ≤ sm h m := by
  have bh := fl_big h h1 h2
  unfold sm
  by_cases c : m = 0
  · rw [if_pos c]; exact ⟨bh, Nat.le_refl _⟩
  · rw [if_neg c]
    have hl := sum_lt h1 h2 (by omega) m2
    have w1 := (W_lt bh).1
    refine ⟨nd_big (by omega) hl, ?_⟩
    have := nd_mono (X := W (fl h)) (Y := W (fl h) + W (fl m)) (by omega) w1 (Nat.lt_of_lt_of_le hl (Nat.pow_le_pow_right (by decide) (by decide)))
    rwa [nd_W bh] at this
theorem W_sm_le (h1 : 1 ≤ h) (h2 : h < 18446744073709551616) (m2 : m < 18446744073709551616) : W (fl h) ≤ W (sm h m) := by
  obtain ⟨b, l⟩ := sm_big (m := m) h1 h2 m2
  exact W_mono (fl_big h h1 h2) b l

/-! ### The operations' own words -/
theorem add_sm (h1 : 1 ≤ h) (h2 : h < 18446744073709551616) (m2 : m < 18446744073709551616) : double.add (fl h) (fl m) = some (sm h m) := by
  unfold sm
  by_cases c : m = 0
  · rw [if_pos c, c, fl_zero]; exact add_zero_right _ (fl_big h h1 h2)
  · rw [if_neg c]
    exact add_eq _ _ (fl_big h h1 h2) (fl_big m (by omega) m2) (Nat.lt_of_lt_of_le (sum_lt h1 h2 (by omega) m2) (by decide))
theorem add_sm0 (m1 : 1 ≤ m) (m2 : m < 18446744073709551616) : double.add (fl 0) (fl m) = some (fl m) := by
  rw [fl_zero]; exact add_zero_left _ (fl_big m m1 m2)
theorem div_hr (h1 : 1 ≤ h) (h2 : h < 18446744073709551616) (m2 : m < 18446744073709551616) : double.div (fl h) (sm h m) = some (hr h m) := by
  unfold hr
  rw [if_neg (by omega)]
  exact div_big (fl_big h h1 h2) (sm_big h1 h2 m2).1
theorem div_hr0 (m1 : 1 ≤ m) (m2 : m < 18446744073709551616) : double.div (fl 0) (fl m) = some (hr 0 m) := by
  have b := fl_big m m1 m2
  unfold Big at b
  rw [fl_zero, div_zero _ (by omega) (by omega)]
  unfold hr
  rw [if_pos rfl]

/-! ### What holds of it -/
theorem hr_zero : hr 0 m = 0 := by unfold hr; rw [if_pos rfl]
theorem hr_pos (h1 : 1 ≤ h) (h2 : h < 18446744073709551616) (m2 : m < 18446744073709551616) : 4503599627370496 ≤ hr h m := by
  unfold hr
  rw [if_neg (by omega)]
  exact qw_normal (fl_big h h1 h2) (sm_big h1 h2 m2).1
theorem hr_le1 (h2 : h < 18446744073709551616) (m2 : m < 18446744073709551616) : hr h m ≤ 4607182418800017408 := by
  unfold hr
  by_cases c : h = 0
  · rw [if_pos c]; omega
  · rw [if_neg c]
    obtain ⟨b, l⟩ := sm_big (m := m) (by omega) h2 m2
    have := qw_le (fl_big h (by omega) h2) b 0 (by omega) l (by rw [Nat.pow_zero, Nat.mul_one]; exact W_sm_le (by omega) h2 m2)
    omega
theorem hr_one (h1 : 1 ≤ h) (h2 : h < 18446744073709551616) : hr h 0 = 4607182418800017408 := by
  have b := fl_big h h1 h2
  have e : sm h 0 = fl h := by unfold sm; rw [if_pos rfl]
  have le := hr_le1 (h := h) (m := 0) h2 (by omega)
  have ge : (1023 - 0) * 4503599627370496 ≤ hr h 0 := by
    unfold hr
    rw [if_neg (by omega), e]
    exact qw_ge b b 0 (by omega) (Nat.le_refl _) (by rw [Nat.pow_zero, Nat.mul_one]; exact Nat.le_refl _)
  exact Nat.le_antisymm le ge
theorem hr_low (h1 : 1 ≤ h) (hm : h ≤ m) (m2 : m < 18446744073709551616) : hr h m ≤ 4602678819172646912 := by
  have bh := fl_big h h1 (by omega)
  have bm := fl_big m (by omega) m2
  have hl := sum_lt h1 (by omega) (show 1 ≤ m by omega) m2
  have hmo := W_mono bh bm (fl_mono h m h1 hm m2)
  obtain ⟨b, l⟩ := sm_big (m := m) h1 (by omega) m2
  have w1 := (W_lt bh).1
  -- the sum's word is at least that of 2 h
  have hge : fl h + 4503599627370496 ≤ sm h m := by
    have e := nd_double (X := W (fl h)) w1 (Nat.lt_of_lt_of_le (W_lt bh).2 (Nat.pow_le_pow_right (by decide) (by decide)))
    rw [nd_W bh] at e
    rw [← e]
    unfold sm
    rw [if_neg (by omega)]
    exact nd_mono (by omega) (by omega) (Nat.lt_of_lt_of_le hl (Nat.pow_le_pow_right (by decide) (by decide)))
  have hd := W_double bh
  have bd : Big (fl h + 4503599627370496) := by unfold Big at *; omega
  have hw := W_mono bd b hge
  rw [hd.2.2] at hw
  have := qw_le bh b 1 (by omega) l (by rw [Nat.pow_one]; omega)
  unfold hr
  rw [if_neg (by omega)]
  omega
theorem hr_high (h2 : h < 18446744073709551616) (m1 : 1 ≤ m) (hm : m ≤ h) : 4602678819172646912 ≤ hr h m := by
  have bh := fl_big h (by omega) h2
  have bm := fl_big m m1 (by omega)
  have hl := sum_lt (show 1 ≤ h by omega) h2 m1 (by omega)
  have hmo := W_mono bm bh (fl_mono m h m1 hm h2)
  obtain ⟨b, l⟩ := sm_big (m := m) (show 1 ≤ h by omega) h2 (by omega)
  have w1 := (W_lt bh).1
  have hle : sm h m ≤ fl h + 4503599627370496 := by
    have e := nd_double (X := W (fl h)) w1 (Nat.lt_of_lt_of_le (W_lt bh).2 (Nat.pow_le_pow_right (by decide) (by decide)))
    rw [nd_W bh] at e
    rw [← e]
    unfold sm
    rw [if_neg (by omega)]
    have a := fl_top h (by omega) h2
    have p2 : 2 * W (fl h) < 2 ^ 200 := Nat.lt_of_lt_of_le (Nat.lt_of_le_of_lt (by omega) pow_117) (Nat.pow_le_pow_right (by decide) (by decide))
    exact nd_mono (by omega) (by omega) p2
  have hd := W_double bh
  have bd : Big (fl h + 4503599627370496) := by
    have a := fl_top h (by omega) h2
    have e := nd_double (X := W (fl h)) w1 (Nat.lt_of_lt_of_le (W_lt bh).2 (Nat.pow_le_pow_right (by decide) (by decide)))
    rw [nd_W bh] at e
    rw [← e]
    exact nd_big (by omega) (Nat.lt_of_le_of_lt (by omega) pow_117)
  have hw := W_mono b bd hle
  rw [hd.2.2] at hw
  have := qw_ge bh b 1 (by omega) l (by rw [Nat.pow_one]; omega)
  unfold hr
  rw [if_neg (by omega)]
  omega
theorem hr_half (h1 : 1 ≤ h) (h2 : h < 18446744073709551616) : hr h h = 4602678819172646912 :=
  Nat.le_antisymm (hr_low h1 (Nat.le_refl _) h2) (hr_high h2 h1 (Nat.le_refl _))

theorem hr_double (h2 : h < 9223372036854775808) (m2 : m < 9223372036854775808) : hr (2 * h) (2 * m) = hr h m := by
  by_cases c : h = 0
  · subst c; rw [Nat.mul_zero, hr_zero, hr_zero]
  · have bh := fl_big h (by omega) (by omega)
    have fh := fl_double h (by omega) h2
    obtain ⟨b, l⟩ := sm_big (m := m) (show 1 ≤ h by omega) (by omega) (by omega)
    have hs : sm (2 * h) (2 * m) = sm h m + 4503599627370496 := by
      unfold sm
      by_cases d : m = 0
      · subst d; simp only [Nat.mul_zero, if_true]; exact fh
      · rw [if_neg (by omega), if_neg d, fh, fl_double m (by omega) m2, (W_double bh).2.2, (W_double (fl_big m (by omega) (by omega))).2.2, ← Nat.mul_add]
        have w1 := (W_lt bh).1
        have hl := sum_lt (show 1 ≤ h by omega) (by omega) (show 1 ≤ m by omega) (show m < 18446744073709551616 by omega)
        exact nd_double (by omega) (Nat.lt_of_lt_of_le hl (Nat.pow_le_pow_right (by decide) (by decide)))
    unfold hr
    rw [if_neg (by omega), if_neg c, hs, fh]
    exact qw_double bh b
/-- Up to 2^53 the sum is exact. -/
theorem W_sm (h1 : 1 ≤ h) (hs : h + m ≤ 9007199254740992) : W (sm h m) = (h + m) * 4503599627370496 := by
  unfold sm
  by_cases c : m = 0
  · subst c; rw [if_pos rfl]; exact fl_exact h h1 (by omega)
  · rw [if_neg c, fl_exact h h1 (by omega), fl_exact m (by omega) (by omega), ← Nat.add_mul]
    have hl : (h + m).log2 < 64 := (Nat.log2_lt (by omega)).2 (by omega)
    exact nd_exact (h + m) 52 (by omega) hs (by omega) (by omega)
theorem hr_lt1 (m1 : 1 ≤ m) (hs : h + m ≤ 9007199254740992) : hr h m < 4607182418800017408 := by
  by_cases c : h = 0
  · subst c; rw [hr_zero]; omega
  · obtain ⟨b, l⟩ := sm_big (m := m) (show 1 ≤ h by omega) (by omega) (by omega)
    unfold hr
    rw [if_neg c]
    refine qw_lt1 (fl_big h (by omega) (by omega)) b l ?_
    rw [W_sm (by omega) hs, fl_exact h (by omega) (by omega)]
    omega
end

/-- Words in order. -/
theorem ord_eq (x : Nat) (hx : x < 9218868437227405312) : double.order x x = some .eq := by
  rw [order_eq x x hx hx, Nat.compare_eq_eq.2 rfl]
end Go.Proofs.Qxb6002901a
