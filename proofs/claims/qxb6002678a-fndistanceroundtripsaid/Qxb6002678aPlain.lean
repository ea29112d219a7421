/-
  PLAIN LAWS, no Go in sight: what an entry's header is as a list of bytes, and that a reader finds type and size in it.
-/
import Derived.Laws.Bits128
import Derived.Laws.BitsAllLaws
namespace Go.Proofs.Qxb6002678a

/-- The rest of a header: 'c' the byte in hand, 's' what is left of the size. 'f': as many bytes at most follow. -/
def hdr : Nat → Nat → Nat → List Nat
  | 0, c, _ => [c]
  | f + 1, c, s => if s = 0 then [c] else (c % 128 + 128) :: hdr f (s % 128) (s / 128)

theorem hdr_zero (f c : Nat) : hdr f c 0 = [c] := by cases f <;> simp [hdr]
theorem hdr_step (f c s : Nat) (h : s ≠ 0) : hdr (f + 1) c s = (c % 128 + 128) :: hdr f (s % 128) (s / 128) := by simp [hdr, h]
theorem hdr_pos (f c s : Nat) : 1 ≤ (hdr f c s).length := by
  cases f with
  | zero => simp [hdr]
  | succ f => unfold hdr; split <;> simp
theorem hdr_le (f : Nat) : ∀ c s, (hdr f c s).length ≤ f + 1 := by
  induction f with
  | zero => intro c s; simp [hdr]
  | succ f ih =>
    intro c s
    unfold hdr
    split
    · simp
    · have := ih (s % 128) (s / 128); simp only [List.length_cons]; omega
theorem hdr_long (f c s : Nat) (h : s ≠ 0) : 2 ≤ (hdr (f + 1) c s).length := by
  rw [hdr_step f c s h]
  have := hdr_pos f (s % 128) (s / 128)
  simp only [List.length_cons]; omega

/-- A longer header does not end in a zero byte. -/
theorem hdr_last (f : Nat) : ∀ c s, s < 128 ^ f → s ≠ 0 → (hdr f c s).getD ((hdr f c s).length - 1) 0 ≠ 0 := by
  induction f with
  | zero => intro c s h1 h2; simp at h1; omega
  | succ f ih =>
    intro c s h1 h2
    rw [hdr_step f c s h2]
    have hp := hdr_pos f (s % 128) (s / 128)
    have e : ((c % 128 + 128) :: hdr f (s % 128) (s / 128)).length - 1 = ((hdr f (s % 128) (s / 128)).length - 1) + 1 := by simp only [List.length_cons]; omega
    rw [e, List.getD_cons_succ]
    by_cases h0 : s / 128 = 0
    · rw [h0, hdr_zero]
      simp
      omega
    · refine ih (s % 128) (s / 128) ?_ h0
      rw [Nat.pow_succ] at h1
      exact Nat.div_lt_of_lt_mul (by omega)

/-- 'c | 0x80' on a byte. -/
theorem or128 (c : Nat) (h : c < 256) : bits .or .u8 (c : Int) 128 = ((c % 128 + 128 : Nat) : Int) := by
  have := u8_or_nat c 128 h (by decide)
  have e : c ||| 128 = c % 128 + 128 := by
    have key : ∀ k : Fin 256, (k.val ||| 128) = k.val % 128 + 128 := by decide +kernel
    exact key ⟨c, h⟩
  rw [e] at this
  exact this

/-! ### The distance -/

/-- The bytes of a distance, made from the last to the first: 'd' what is left, 'acc' what stands already, 'i' how many places are free ahead of it. -/
def dst : Nat → Nat → List Nat → List Nat
  | 0, _, acc => acc
  | i + 1, d, acc => if d = 0 then acc else dst i ((d - 1) / 128) (((d - 1) % 128 + 128) :: acc)
/-- A distance's bytes. -/
def dist (d : Nat) : List Nat := dst 9 (d / 128) [d % 128]

theorem dst_zero (i : Nat) (acc : List Nat) : dst i 0 acc = acc := by cases i <;> simp [dst]
theorem dst_step (i e : Nat) (acc : List Nat) : dst (i + 1) (e + 1) acc = dst i (e / 128) ((e % 128 + 128) :: acc) := by simp [dst]

theorem and127 (e : Nat) (h : e < 18446744073709551616) : bits .and .u64 (e : Int) 127 = ((e % 128 : Nat) : Int) := by
  have := u64_and_nat e 127 h (by decide)
  rw [nat_mask7] at this
  exact this
theorem or128' (c : Nat) (h : c < 128) : bits .or .u8 128 (c : Int) = ((c + 128 : Nat) : Int) := by
  have := u8_or_nat 128 c (by decide) (by omega)
  have e : 128 ||| c = c + 128 := by
    have key : ∀ k : Fin 128, (128 ||| k.val) = k.val + 128 := by decide +kernel
    exact key ⟨c, h⟩
  rw [e] at this
  exact this
theorem dst_byte (e : Nat) (h : e < 18446744073709551616) : bits .or .u8 128 (bits .and .u64 (e : Int) 127 % 256) = ((e % 128 + 128 : Nat) : Int) := by
  rw [and127 e h, ← or128' (e % 128) (by omega)]
  congr 1
  omega
theorem dst_first (e : Nat) (h : e < 18446744073709551616) : bits .and .u64 (e : Int) 127 % 256 = ((e % 128 : Nat) : Int) := by
  rw [and127 e h]
  omega
theorem dst_bound (i e : Nat) (h : (e + 1) * 64 < 128 ^ (i + 1)) : e / 128 * 64 < 128 ^ i := by
  rw [Nat.pow_succ] at h
  have : e / 128 * 128 ≤ e := Nat.div_mul_le_self e 128
  omega

/-! ### Byte by byte -/
def lex : List Nat → List Nat → Int
  | a :: as', b :: bs => if a < b then -1 else if b < a then 1 else lex as' bs
  | _, _ => 0
theorem lex_drop (l1 l2 : List Nat) (k : Nat) (h1 : k < l1.length) (h2 : k < l2.length) :
    lex (l1.drop k) (l2.drop k) = if l1.getD k 0 < l2.getD k 0 then -1 else if l2.getD k 0 < l1.getD k 0 then 1 else lex (l1.drop (k + 1)) (l2.drop (k + 1)) := by
  rw [List.drop_eq_getElem_cons h1, List.drop_eq_getElem_cons h2]
  simp [lex, List.getD, List.getElem?_eq_getElem h1, List.getElem?_eq_getElem h2]
theorem lex_end (l1 l2 : List Nat) (k : Nat) (h1 : l1.length ≤ k) : lex (l1.drop k) (l2.drop k) = 0 := by
  rw [List.drop_eq_nil_of_le h1]
  simp [lex]

/-- The bytes ahead of the last: each bears its mark. -/
def fl : Nat → Nat → List Nat
  | 0, _ => []
  | i + 1, d => if d = 0 then [] else fl i ((d - 1) / 128) ++ [(d - 1) % 128 + 128]
theorem fl_zero (i : Nat) : fl i 0 = [] := by cases i <;> simp [fl]
theorem fl_step (i e : Nat) : fl (i + 1) (e + 1) = fl i (e / 128) ++ [e % 128 + 128] := by simp [fl]
theorem dst_fl (i : Nat) : ∀ d acc, dst i d acc = fl i d ++ acc := by
  induction i with
  | zero => intro d acc; simp [dst, fl]
  | succ i ih =>
    intro d acc
    cases d with
    | zero => rw [dst_zero, fl_zero]; rfl
    | succ e => rw [dst_step, fl_step, ih]; simp
theorem dist_fl (d : Nat) : dist d = fl 9 (d / 128) ++ [d % 128] := by unfold dist; rw [dst_fl]
theorem fl_le (i : Nat) : ∀ d, (fl i d).length ≤ i := by
  induction i with
  | zero => intro d; simp [fl]
  | succ i ih =>
    intro d
    cases d with
    | zero => rw [fl_zero]; simp
    | succ e => rw [fl_step]; have := ih (e / 128); simp; omega
theorem dist_len (d : Nat) : 1 ≤ (dist d).length ∧ (dist d).length ≤ 10 := by
  rw [dist_fl]; have := fl_le 9 (d / 128); simp; omega

theorem lex_self : ∀ l : List Nat, lex l l = 0
  | [] => rfl
  | a :: r => by simp [lex, lex_self r]
theorem lex_swap : ∀ l1 l2 : List Nat, lex l1 l2 = -1 → lex l2 l1 = 1
  | [], _ => by simp [lex]
  | _ :: _, [] => by simp [lex]
  | a :: r, b :: q => by
    intro h
    simp only [lex] at h ⊢
    by_cases h1 : a < b
    · rw [if_neg (by omega), if_pos h1]
    · rw [if_neg h1] at h
      by_cases h2 : b < a
      · rw [if_pos h2] at h; omega
      · rw [if_neg h2] at h
        rw [if_neg h2, if_neg h1]
        exact lex_swap r q h
theorem lex_snoc : ∀ (l1 l2 : List Nat) (x y : Nat), l1.length = l2.length → lex l1 l2 = -1 → lex (l1 ++ [x]) (l2 ++ [y]) = -1
  | [], [], x, y => by simp [lex]
  | [], _ :: _, x, y => by simp
  | _ :: _, [], x, y => by simp
  | a :: r, b :: q, x, y => by
    intro hl h
    simp only [lex, List.cons_append] at h ⊢
    by_cases h1 : a < b
    · rw [if_pos h1]
    · rw [if_neg h1] at h ⊢
      by_cases h2 : b < a
      · rw [if_pos h2] at h; omega
      · rw [if_neg h2] at h ⊢
        exact lex_snoc r q x y (by simpa using hl) h
theorem lex_same : ∀ (l : List Nat) (x y : Nat), x < y → lex (l ++ [x]) (l ++ [y]) = -1
  | [], x, y, h => by simp [lex, h]
  | a :: r, x, y, h => by simp [lex, lex_same r x y h]

theorem fl_mono (i : Nat) : ∀ d1 d2, d1 < d2 → d2 * 64 < 128 ^ i → (fl i d1).length < (fl i d2).length ∨ ((fl i d1).length = (fl i d2).length ∧ lex (fl i d1) (fl i d2) = -1) := by
  induction i with
  | zero => intro d1 d2 h1 h2; simp at h2; omega
  | succ i ih =>
    intro d1 d2 h1 h2
    obtain ⟨e2, rfl⟩ : ∃ e, d2 = e + 1 := ⟨d2 - 1, by omega⟩
    cases d1 with
    | zero => left; rw [fl_zero, fl_step]; simp
    | succ e1 =>
      rw [fl_step, fl_step]
      by_cases hq : e1 / 128 = e2 / 128
      · right
        rw [hq]
        exact ⟨by simp, lex_same _ _ _ (by omega)⟩
      · rcases ih (e1 / 128) (e2 / 128) (by omega) (dst_bound i e2 h2) with h | ⟨h, k⟩
        · left; simp; omega
        · right; exact ⟨by simp; omega, lex_snoc _ _ _ _ h k⟩
theorem dist_mono (d1 d2 : Nat) (h : d1 < d2) (h2 : d2 < 18446744073709551616) : (dist d1).length < (dist d2).length ∨ ((dist d1).length = (dist d2).length ∧ lex (dist d1) (dist d2) = -1) := by
  rw [dist_fl, dist_fl]
  by_cases hq : d1 / 128 = d2 / 128
  · right
    rw [hq]
    exact ⟨by simp, lex_same _ _ _ (by omega)⟩
  · rcases fl_mono 9 (d1 / 128) (d2 / 128) (by omega) (by omega) with h | ⟨h, k⟩
    · left; simp; omega
    · right; exact ⟨by simp; omega, lex_snoc _ _ _ _ h k⟩
end Go.Proofs.Qxb6002678a
