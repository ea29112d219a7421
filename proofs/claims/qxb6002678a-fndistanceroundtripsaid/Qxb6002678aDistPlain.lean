/-
  PLAIN LAWS: what a reader of a distance finds.
-/
import Derived.Test.Qxb6002678aPlain
import Derived.Laws.BitsLemmas
namespace Go.Proofs.Qxb6002678a

/-- What the reader holds behind p bytes. -/
def vl (h : List Nat) : Nat → Nat
  | 0 => 0
  | p + 1 => if p = 0 then h.getD 0 0 % 128 else (vl h p + 1) * 128 + h.getD p 0 % 128
theorem vl_one (h : List Nat) : vl h 1 = h.getD 0 0 % 128 := by simp [vl]
theorem vl_step (h : List Nat) (p : Nat) (hp : 1 ≤ p) : vl h (p + 1) = (vl h p + 1) * 128 + h.getD p 0 % 128 := by
  have : p ≠ 0 := by omega
  simp [vl, this]
theorem vl_le (h : List Nat) (p : Nat) (hp : 1 ≤ p) : ∀ q, vl h p ≤ vl h (p + q)
  | 0 => Nat.le_refl _
  | q + 1 => by
    have := vl_le h p hp q
    rw [show p + (q + 1) = p + q + 1 by omega, vl_step h (p + q) (by omega)]
    omega
theorem getD_end (a r : List Nat) (b : Nat) : (a ++ b :: r).getD a.length 0 = b := by simp [List.getD]

theorem fl_val (i : Nat) : ∀ q r, 1 ≤ q → q * 64 < 128 ^ i → 1 ≤ (fl i q).length ∧ vl (fl i q ++ r) (fl i q).length + 1 = q := by
  induction i with
  | zero => intro q r h1 h2; simp at h2; omega
  | succ i ih =>
    intro q r h1 h2
    obtain ⟨e, rfl⟩ : ∃ e, q = e + 1 := ⟨q - 1, by omega⟩
    rw [fl_step]
    have hl : (fl i (e / 128) ++ [e % 128 + 128]).length = (fl i (e / 128)).length + 1 := by simp
    have hr : fl i (e / 128) ++ [e % 128 + 128] ++ r = fl i (e / 128) ++ (e % 128 + 128) :: r := by simp
    rw [hl, hr]
    refine ⟨by omega, ?_⟩
    by_cases h0 : e / 128 = 0
    · rw [h0, fl_zero]
      rw [show ([] : List Nat).length + 1 = 1 from rfl, vl_one]
      simp
      omega
    · obtain ⟨k1, k2⟩ := ih (e / 128) ((e % 128 + 128) :: r) (by omega) (dst_bound i e h2)
      rw [vl_step _ _ k1, getD_end, k2]
      omega
theorem dist_val (d : Nat) (hd : d < 18446744073709551616) : vl (dist d) (dist d).length = d := by
  rw [dist_fl]
  have hl : (fl 9 (d / 128) ++ [d % 128]).length = (fl 9 (d / 128)).length + 1 := by simp
  rw [hl]
  by_cases h0 : d / 128 = 0
  · rw [h0, fl_zero]
    rw [show ([] : List Nat).length + 1 = 1 from rfl, vl_one]
    simp
    omega
  · obtain ⟨k1, k2⟩ := fl_val 9 (d / 128) [d % 128] (by omega) (by omega)
    rw [vl_step _ _ k1, getD_end, k2]
    omega
theorem fl_mem (i : Nat) : ∀ q, ∀ b ∈ fl i q, 128 ≤ b ∧ b < 256 := by
  induction i with
  | zero => intro q b hb; simp [fl] at hb
  | succ i ih =>
    intro q b hb
    cases q with
    | zero => rw [fl_zero] at hb; simp at hb
    | succ e =>
      rw [fl_step, List.mem_append, List.mem_singleton] at hb
      rcases hb with hb | hb
      · exact ih _ b hb
      · omega
theorem dist_mark (d k : Nat) (hk : k + 1 < (dist d).length) : 128 ≤ (dist d).getD k 0 ∧ (dist d).getD k 0 < 256 := by
  rw [dist_fl] at hk ⊢
  have hl : k < (fl 9 (d / 128)).length := by simp at hk; omega
  have e : (fl 9 (d / 128) ++ [d % 128]).getD k 0 = (fl 9 (d / 128))[k] := by
    rw [List.getD_eq_getElem?_getD, List.getElem?_append_left hl, List.getElem?_eq_getElem hl]; rfl
  rw [e]
  exact fl_mem 9 _ _ (List.getElem_mem hl)
theorem dist_last (d k : Nat) (hk : k + 1 = (dist d).length) : (dist d).getD k 0 < 128 := by
  rw [dist_fl] at hk ⊢
  have hl : k = (fl 9 (d / 128)).length := by simp at hk; omega
  rw [hl, getD_end]
  omega
theorem dmark (b : Nat) (h : b < 256) : bits .and .u8 (b : Int) 128 = ((b / 128 % 2 * 128 : Nat) : Int) := by
  have := u8_and_nat b (2 ^ 7) h (by decide)
  rw [nat_bit] at this
  exact this
theorem dlow (b : Nat) (h : b < 256) : bits .and .u8 (b : Int) 127 = ((b % 128 : Nat) : Int) := by
  have := u8_and_nat b 127 h (by decide)
  rw [nat_mask7] at this
  exact this
/-- '((v + 1) << 7) | c'. -/
theorem or7 (v c : Nat) (hc : c < 128) (hv : (v + 1) * 128 + c < 18446744073709551616) : bits .or .u64 (((v + 1) * 128 : Nat) : Int) (c : Int) = (((v + 1) * 128 + c : Nat) : Int) := by
  rw [u64_or_nat ((v + 1) * 128) c (by omega) (by omega), nat_join 7 ((v + 1) * 128) c (by omega) (by omega)]
end Go.Proofs.Qxb6002678a
