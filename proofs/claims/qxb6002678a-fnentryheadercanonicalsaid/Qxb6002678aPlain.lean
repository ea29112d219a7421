/-
  PLAIN LAWS, no Go in sight: what an entry's header is as a list of bytes, and that a reader finds type and size in it.
-/
import Derived.Laws.Bits128
import Derived.Laws.BitsAllLaws
namespace Go.Proofs.Qxb6002678a

/-- The rest of a header: 'c' the byte in hand, 's' what is left of the size. 'f': as many bytes at most follow. -/
def hdr : Nat → Nat → Nat → List Nat
  | 0, c, _ => [c]
  | f + 1, c, s => if s = 0 then [c] else (c % 128 + 128) :: hdr f (s % 128) (s / 128)

theorem hdr_zero (f c : Nat) : hdr f c 0 = [c] := by cases f <;> simp [hdr]
theorem hdr_step (f c s : Nat) (h : s ≠ 0) : hdr (f + 1) c s = (c % 128 + 128) :: hdr f (s % 128) (s / 128) := by simp [hdr, h]
theorem hdr_pos (f c s : Nat) : 1 ≤ (hdr f c s).length := by
  cases f with
  | zero => simp [hdr]
  | succ f => unfold hdr; split <;> simp
theorem hdr_le (f : Nat) : ∀ c s, (hdr f c s).length ≤ f + 1 := by
  induction f with
  | zero => intro c s; simp [hdr]
  | succ f ih =>
    intro c s
    unfold hdr
    split
    · simp
    · have := ih (s % 128) (s / 128); simp only [List.length_cons]; omega
theorem hdr_long (f c s : Nat) (h : s ≠ 0) : 2 ≤ (hdr (f + 1) c s).length := by
  rw [hdr_step f c s h]
  have := hdr_pos f (s % 128) (s / 128)
  simp only [List.length_cons]; omega

/-- A longer header does not end in a zero byte. -/
theorem hdr_last (f : Nat) : ∀ c s, s < 128 ^ f → s ≠ 0 → (hdr f c s).getD ((hdr f c s).length - 1) 0 ≠ 0 := by
  induction f with
  | zero => intro c s h1 h2; simp at h1; omega
  | succ f ih =>
    intro c s h1 h2
    rw [hdr_step f c s h2]
    have hp := hdr_pos f (s % 128) (s / 128)
    have e : ((c % 128 + 128) :: hdr f (s % 128) (s / 128)).length - 1 = ((hdr f (s % 128) (s / 128)).length - 1) + 1 := by simp only [List.length_cons]; omega
    rw [e, List.getD_cons_succ]
    by_cases h0 : s / 128 = 0
    · rw [h0, hdr_zero]
      simp
      omega
    · refine ih (s % 128) (s / 128) ?_ h0
      rw [Nat.pow_succ] at h1
      exact Nat.div_lt_of_lt_mul (by omega)

/-- 'c | 0x80' on a byte. -/
theorem or128 (c : Nat) (h : c < 256) : bits .or .u8 (c : Int) 128 = ((c % 128 + 128 : Nat) : Int) := by
  have := u8_or_nat c 128 h (by decide)
  have e : c ||| 128 = c % 128 + 128 := by
    have key : ∀ k : Fin 256, (k.val ||| 128) = k.val % 128 + 128 := by decide +kernel
    exact key ⟨c, h⟩
  rw [e] at this
  exact this
end Go.Proofs.Qxb6002678a
