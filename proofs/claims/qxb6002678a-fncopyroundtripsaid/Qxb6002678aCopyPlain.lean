/-
  PLAIN LAWS on copy instructions, no Go in sight.
-/
import Derived.Laws.BitsAllLaws
namespace Go.Proofs.Qxb6002678a

/-- Byte i of x. -/
def byt (x i : Nat) : Nat := x / 256 ^ i % 256
/-- The marks of the first i bytes of x that are not zero. -/
def fg (x : Nat) : Nat → Nat
  | 0 => 0
  | i + 1 => if byt x i = 0 then fg x i else fg x i + 2 ^ i
/-- The first i bytes of x that are not zero. -/
def bt (x : Nat) : Nat → List Nat
  | 0 => []
  | i + 1 => if byt x i = 0 then bt x i else bt x i ++ [byt x i]
/-- One instruction: copy k bytes from place x. -/
def ins (x k : Nat) : List Nat := (128 + fg x 4 + 16 * fg k 3) :: (bt x 4 ++ bt k 3)
/-- All instructions: n bytes from place x. -/
def cp : Nat → Nat → Nat → List Nat
  | 0, _, _ => []
  | f + 1, x, n => if n = 0 then [] else ins x (min n 16777215) ++ cp f (x + min n 16777215) (n - min n 16777215)

theorem byt_lt (x i : Nat) : byt x i < 256 := Nat.mod_lt _ (by decide)
theorem fg_hit {x i : Nat} (h : byt x i ≠ 0) : fg x (i + 1) = fg x i + 2 ^ i := by simp [fg, h]
theorem fg_miss {x i : Nat} (h : byt x i = 0) : fg x (i + 1) = fg x i := by simp [fg, h]
theorem bt_hit {x i : Nat} (h : byt x i ≠ 0) : bt x (i + 1) = bt x i ++ [byt x i] := by simp [bt, h]
theorem bt_miss {x i : Nat} (h : byt x i = 0) : bt x (i + 1) = bt x i := by simp [bt, h]
theorem fg_lt (x : Nat) : ∀ i, fg x i < 2 ^ i
  | 0 => by simp [fg]
  | i + 1 => by
    have := fg_lt x i
    unfold fg
    rw [Nat.pow_succ]
    split <;> omega
theorem bt_le (x : Nat) : ∀ i, (bt x i).length ≤ i
  | 0 => by simp [bt]
  | i + 1 => by
    have := bt_le x i
    unfold bt
    split
    · omega
    · simp; omega
theorem ins_len (x k : Nat) : 1 ≤ (ins x k).length ∧ (ins x k).length ≤ 8 := by
  have := bt_le x 4
  have := bt_le k 3
  unfold ins
  simp; omega
theorem cp_zero (f x : Nat) : cp f x 0 = [] := by cases f <;> simp [cp]
theorem cp_step (f x n : Nat) (h : n ≠ 0) : cp (f + 1) x n = ins x (min n 16777215) ++ cp f (x + min n 16777215) (n - min n 16777215) := by simp [cp, h]

/-- The bytes of x, put together again. -/
theorem mod_step (x i : Nat) : x % 256 ^ (i + 1) = x % 256 ^ i + byt x i * 256 ^ i := by
  unfold byt
  rw [Nat.pow_succ, Nat.mod_mul, Nat.mul_comm]

/-- The mark of byte i is set just where the byte is not zero. -/
theorem fg_bit (x : Nat) (i : Nat) : ∀ m, i < m → fg x m / 2 ^ i % 2 = if byt x i = 0 then 0 else 1
  | 0, h => by omega
  | m + 1, h => by
    have hl := fg_lt x m
    by_cases e : i = m
    · subst e
      by_cases hz : byt x i = 0
      · rw [fg_miss hz, if_pos hz, Nat.div_eq_of_lt hl]
      · rw [fg_hit hz, if_neg hz, Nat.add_div_right _ (Nat.two_pow_pos i), Nat.div_eq_of_lt hl]
    · have ih := fg_bit x i m (by omega)
      by_cases hz : byt x m = 0
      · rw [fg_miss hz]; exact ih
      · rw [fg_hit hz, ← ih]
        obtain ⟨q, rfl⟩ : ∃ q, m = i + 1 + q := ⟨m - i - 1, by omega⟩
        have : 2 ^ (i + 1 + q) = (2 * 2 ^ q) * 2 ^ i := by
          rw [Nat.pow_add, Nat.pow_succ, Nat.mul_right_comm, Nat.mul_assoc, Nat.mul_comm (2 ^ i) (2 ^ q * 2), Nat.mul_comm (2 ^ q) 2]
        rw [this, Nat.add_mul_div_right _ _ (Nat.two_pow_pos i)]
        omega

/-- Where byte i stands among the bytes that are not zero. -/
theorem bt_at (x i : Nat) (h : byt x i ≠ 0) : ∀ m, i < m → ∃ r, bt x m = bt x i ++ byt x i :: r
  | 0, hm => by omega
  | m + 1, hm => by
    by_cases e : i = m
    · subst e; exact ⟨[], bt_hit h⟩
    · obtain ⟨r, hr⟩ := bt_at x i h m (by omega)
      by_cases hz : byt x m = 0
      · exact ⟨r, by rw [bt_miss hz, hr]⟩
      · exact ⟨r ++ [byt x m], by rw [bt_hit hz, hr]; simp⟩
theorem getD_mid (a r : List Nat) (b : Nat) : (a ++ b :: r).getD a.length 0 = b := by simp [List.getD]
/-- The byte that the reader meets for byte i of the place. -/
theorem ins_off (pre rest : List Nat) (x k i : Nat) (h : byt x i ≠ 0) (hi : i < 4) :
    (pre ++ (ins x k ++ rest)).getD (pre.length + 1 + (bt x i).length) 0 = byt x i ∧ pre.length + 1 + (bt x i).length < (pre ++ (ins x k ++ rest)).length := by
  obtain ⟨r, hr⟩ := bt_at x i h 4 hi
  have e : pre ++ (ins x k ++ rest) = (pre ++ (128 + fg x 4 + 16 * fg k 3) :: bt x i) ++ byt x i :: (r ++ (bt k 3 ++ rest)) := by unfold ins; rw [hr]; simp
  have l : (pre ++ (128 + fg x 4 + 16 * fg k 3) :: bt x i).length = pre.length + 1 + (bt x i).length := by simp; omega
  rw [e, ← l, getD_mid]
  exact ⟨rfl, by simp⟩
/-- The byte that the reader meets for byte i of the size. -/
theorem ins_sz (pre rest : List Nat) (x k i : Nat) (h : byt k i ≠ 0) (hi : i < 3) :
    (pre ++ (ins x k ++ rest)).getD (pre.length + 1 + (bt x 4).length + (bt k i).length) 0 = byt k i ∧ pre.length + 1 + (bt x 4).length + (bt k i).length < (pre ++ (ins x k ++ rest)).length := by
  obtain ⟨r, hr⟩ := bt_at k i h 3 hi
  have e : pre ++ (ins x k ++ rest) = (pre ++ (128 + fg x 4 + 16 * fg k 3) :: (bt x 4 ++ bt k i)) ++ byt k i :: (r ++ rest) := by unfold ins; rw [hr]; simp
  have l : (pre ++ (128 + fg x 4 + 16 * fg k 3) :: (bt x 4 ++ bt k i)).length = pre.length + 1 + (bt x 4).length + (bt k i).length := by simp; omega
  rw [e, ← l, getD_mid]
  exact ⟨rfl, by simp⟩
theorem ins_op (pre rest : List Nat) (x k : Nat) :
    (pre ++ (ins x k ++ rest)).getD pre.length 0 = 128 + fg x 4 + 16 * fg k 3 ∧ pre.length < (pre ++ (ins x k ++ rest)).length := by
  unfold ins
  rw [List.cons_append, getD_mid]
  exact ⟨rfl, by simp⟩
theorem ins_end (pre : List Nat) (x k : Nat) : pre.length + 1 + (bt x 4).length + (bt k 3).length = (pre ++ ins x k).length := by unfold ins; simp; omega

/-- The marks in the first byte. -/
theorem op_off (x k i : Nat) (hi : i < 4) : (128 + fg x 4 + 16 * fg k 3) / 2 ^ i % 2 = if byt x i = 0 then 0 else 1 := by
  rw [← fg_bit x i 4 hi]
  match i, hi with
  | 0, _ => omega
  | 1, _ => omega
  | 2, _ => omega
  | 3, _ => omega
theorem op_sz (x k i : Nat) (hi : i < 3) : (128 + fg x 4 + 16 * fg k 3) / 2 ^ (4 + i) % 2 = if byt k i = 0 then 0 else 1 := by
  rw [← fg_bit k i 3 hi]
  have h4 := fg_lt x 4
  match i, hi with
  | 0, _ => omega
  | 1, _ => omega
  | 2, _ => omega
theorem op_lt (x k : Nat) : 128 ≤ 128 + fg x 4 + 16 * fg k 3 ∧ 128 + fg x 4 + 16 * fg k 3 < 256 := by
  have h4 := fg_lt x 4
  have h3 := fg_lt k 3
  omega
theorem and_bit (o i : Nat) (ho : o < 256) (hi : i < 8) : bits .and .u8 (o : Int) ((2 ^ i : Nat) : Int) = ((o / 2 ^ i % 2 * 2 ^ i : Nat) : Int) := by
  have h2 : 2 ^ i < 256 := by
    have : 2 ^ i ≤ 2 ^ 7 := Nat.pow_le_pow_right (by decide) (by omega)
    omega
  rw [u8_and_nat o (2 ^ i) ho h2, nat_bit]
/-- A mark that is not yet set is set. -/
theorem or_bit (o i : Nat) (ho : o < 256) (hi : i < 8) (hz : o / 2 ^ i % 2 = 0) : bits .or .u8 (o : Int) ((2 ^ i : Nat) : Int) = ((o + 2 ^ i : Nat) : Int) := by
  have h2 : 2 ^ i < 256 := by
    have : 2 ^ i ≤ 2 ^ 7 := Nat.pow_le_pow_right (by decide) (by omega)
    omega
  rw [u8_or_nat o (2 ^ i) ho h2]
  have key : ∀ (o : Fin 256) (i : Fin 8), o.val / 2 ^ i.val % 2 = 0 → o.val ||| 2 ^ i.val = o.val + 2 ^ i.val := by decide +kernel
  rw [key ⟨o, ho⟩ ⟨i, hi⟩ hz]
theorem op_lt1 (x j : Nat) (hj : j ≤ 4) : 128 + fg x j < 256 := by
  have := fg_lt x j
  have : 2 ^ j ≤ 2 ^ 4 := Nat.pow_le_pow_right (by decide) hj
  omega
theorem op_lt2 (x k j : Nat) (hj : j ≤ 3) : 128 + fg x 4 + 16 * fg k j < 256 := by
  have := fg_lt x 4
  have := fg_lt k j
  have : 2 ^ j ≤ 2 ^ 3 := Nat.pow_le_pow_right (by decide) hj
  omega
theorem op_z1 (x : Nat) : ∀ j, j < 4 → (128 + fg x j) / 2 ^ j % 2 = 0 := by
  intro j hj
  have h := fg_lt x j
  match j, hj, h with
  | 0, _, h => omega
  | 1, _, h => omega
  | 2, _, h => omega
  | 3, _, h => omega
theorem op_z2 (x k : Nat) : ∀ j, j < 3 → (128 + fg x 4 + 16 * fg k j) / 2 ^ (4 + j) % 2 = 0 := by
  intro j hj
  have h := fg_lt k j
  have h4 := fg_lt x 4
  match j, hj, h with
  | 0, _, h => omega
  | 1, _, h => omega
  | 2, _, h => omega
/-- A byte laid above the bytes that stand already. -/
theorem or_join (a y s : Nat) (hs : s ≤ 24) (ha : a < 2 ^ s) (hy : y < 256) : bits .or .u64 (a : Int) ((y : Int) * ((2 ^ s : Nat) : Int)) = ((a + y * 2 ^ s : Nat) : Int) := by
  have h1 : 2 ^ s ≤ 2 ^ 24 := Nat.pow_le_pow_right (by decide) hs
  have h2 : y * 2 ^ s ≤ 255 * 2 ^ 24 := Nat.mul_le_mul (by omega) h1
  have e : (y : Int) * ((2 ^ s : Nat) : Int) = ((y * 2 ^ s : Nat) : Int) := (Int.natCast_mul y (2 ^ s)).symm
  rw [e, u64_or_nat a (y * 2 ^ s) (by omega) (by omega), Nat.or_comm, nat_join s (y * 2 ^ s) a (Nat.mul_mod_left _ _) ha, Nat.add_comm]
theorem or_join0 (a y : Nat) (ha : a < 1) (hy : y < 256) : bits .or .u64 (a : Int) (y : Int) = ((a + y : Nat) : Int) := by
  obtain rfl : a = 0 := by omega
  rw [u64_or_nat 0 y (by omega) (by omega)]
  simp
end Go.Proofs.Qxb6002678a
