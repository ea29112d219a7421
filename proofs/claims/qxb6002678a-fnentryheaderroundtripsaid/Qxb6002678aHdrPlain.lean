/-
  PLAIN LAWS: what a reader of an entry's header finds.
-/
import Derived.Test.Qxb6002678aPlain
import Derived.Laws.BitsLemmas
namespace Go.Proofs.Qxb6002678a

theorem wraps_i64 (n : Int) (h₀ : 0 ≤ n) (h₁ : n < 2 ^ 63) : IntKind.i64.wrap n = n := by rw [IntKind.wrap_i64]; omega
theorem wraps_u64 (n : Int) (h₀ : 0 ≤ n) (h₁ : n < 2 ^ 64) : IntKind.u64.wrap n = n := by rw [IntKind.wrap_u64]; omega

/-- The first byte for a type from 0 to 7. -/
theorem first_byte (t s : Nat) (ht : t ≤ 7) (hs : s ≤ 9223372036854775807) : bits .or .i64 ((t : Int) * 16) (bits .and .i64 (s : Int) 15) % 256 = ((t * 16 + s % 16 : Nat) : Int) := by
  have e : bits .and .i64 (s : Int) 15 = (s : Int) % 16 := bits_mask .i64 63 (by decide) wraps_i64 4 (by decide) (s : Int) (by omega) (by omega)
  rw [e, bits_join .i64 63 (by decide) wraps_i64 4 ((t : Int) * 16) ((s : Int) % 16) (by omega) (by omega) (by omega) (by omega) (by omega) (by omega)]
  omega
/-- The byte that stands first in the rest of a header. -/
def hb (c s : Nat) : Nat := if s = 0 then c else c % 128 + 128
theorem hb_lt (c s : Nat) (h : c < 128) : hb c s < 256 := by unfold hb; split <;> omega
theorem hb_mod (c s : Nat) (h : c < 128) : hb c s % 128 = c := by unfold hb; split <;> omega
theorem hdr_head (f c s : Nat) (hs : s < 128 ^ f) : ∃ r, hdr f c s = hb c s :: r := by
  unfold hb
  by_cases h : s = 0
  · subst h; rw [hdr_zero]; exact ⟨[], by simp⟩
  · rw [if_neg h]
    cases f with
    | zero => simp at hs; omega
    | succ f => rw [hdr_step _ _ _ h]; exact ⟨_, rfl⟩
theorem and128 (b : Nat) (h : b < 256) : bits .and .u8 (b : Int) 128 = ((b / 128 % 2 * 128 : Nat) : Int) := by
  have := u8_and_nat b (2 ^ 7) h (by decide)
  rw [nat_bit] at this
  exact this
theorem mark_yes (c s : Nat) (h : c < 128) (hs : s ≠ 0) : (bits .and .u8 ((hb c s : Nat) : Int) 128 != 0) = true := by
  rw [and128 _ (hb_lt c s h)]
  have : hb c s / 128 % 2 = 1 := by unfold hb; rw [if_neg hs]; omega
  rw [this]; rfl
theorem mark_no (c : Nat) (h : c < 128) : (bits .and .u8 ((hb c 0 : Nat) : Int) 128 != 0) = false := by
  rw [and128 _ (hb_lt c 0 h)]
  have : hb c 0 / 128 % 2 = 0 := by unfold hb; simp; omega
  rw [this]; rfl
theorem low7 (c s : Nat) (h : c < 128) : bits .and .u8 ((hb c s : Nat) : Int) 127 = (c : Int) := by
  have := u8_and_nat (hb c s) 127 (hb_lt c s h) (by decide)
  rw [nat_mask7, hb_mod c s h] at this
  exact this
theorem type_of (t s : Nat) (ht : t ≤ 7) (q : Nat) : bits .and .u8 (((hb (t * 16 + s % 16) q : Nat) : Int) / 16) 7 = (t : Int) := by
  have hl := hb_lt (t * 16 + s % 16) q (by omega)
  have e := u8_and7 (x := ((hb (t * 16 + s % 16) q : Nat) : Int) / 16) (by omega) (by omega)
  rw [e]
  unfold hb
  split <;> omega
theorem size_of (t s : Nat) (ht : t ≤ 7) (q : Nat) : bits .and .u8 ((hb (t * 16 + s % 16) q : Nat) : Int) 15 = ((s % 16 : Nat) : Int) := by
  have hl := hb_lt (t * 16 + s % 16) q (by omega)
  have e := u8_and15 (x := ((hb (t * 16 + s % 16) q : Nat) : Int)) (by omega) (by omega)
  rw [e]
  unfold hb
  split <;> omega
/-- 'size | c << sh'. -/
theorem or_sh (a c sh : Nat) (ha : a < 2 ^ sh) (hc : a + c * 2 ^ sh < 18446744073709551616) : bits .or .u64 (a : Int) ((c * 2 ^ sh : Nat) : Int) = ((a + c * 2 ^ sh : Nat) : Int) := by
  rw [u64_or_nat a (c * 2 ^ sh) (by omega) (by omega), Nat.or_comm, nat_join sh (c * 2 ^ sh) a (Nat.mul_mod_left _ _) ha, Nat.add_comm]
theorem acc_step (a s e : Nat) : a + s % 128 * 2 ^ e + s / 128 * 2 ^ (e + 7) = a + s * 2 ^ e := by
  have h : s = s % 128 + s / 128 * 128 := by omega
  have h2 : s * 2 ^ e = s % 128 * 2 ^ e + s / 128 * (128 * 2 ^ e) := by
    rw [← Nat.mul_assoc, ← Nat.add_mul, ← h]
  rw [h2, show e + 7 = 7 + e by omega, Nat.pow_add, show 2 ^ 7 = 128 from rfl, Nat.add_assoc]
end Go.Proofs.Qxb6002678a
