/-
  THE WALK of FnHitRateExact (3).
-/
import Derived.Test.Qxb6002901aModelWalk
namespace Go.Proofs.Qxb6002901a
open Go.RowKit

theorem olt {x y : Nat} (h : x < y) (hy : y < 9218868437227405312) : FloatKind.f64.format.order x y = some .lt := by
  show Ieee.double.order x y = _
  rw [order_eq x y (by omega) hy, Nat.compare_eq_lt.2 h]
theorem ogt {x y : Nat} (h : y < x) (hx : x < 9218868437227405312) : FloatKind.f64.format.order x y = some .gt := by
  show Ieee.double.order x y = _
  rw [order_eq x y hx (by omega), Nat.compare_eq_gt.2 h]
theorem osame (x : Nat) (hx : x < 9218868437227405312) : FloatKind.f64.format.order x x = some .eq := ord_eq x hx

theorem model_sum (h m : Nat) (h1 : 1 ≤ h) (m1 : 1 ≤ m) (hs : h + m ≤ 9007199254740992) (w : World) :
    Calls Try.prog 7 #[.int .u64 (h : Int), .int .u64 ((h : Int) + (m : Int))] w fun e w' => e = .returned (.float .f64 (hr h m)) ∧ w' = w := by
  have := model_any h m (h + m) h1 hs rfl (by omega) w
  rw [show ((h + m : Nat) : Int) = (h : Int) + (m : Int) from by omega] at this
  exact this

section
variable (h m : Nat) (a2 a3 a4 a5 : Int) (w : World)

set_option maxHeartbeats 400000 in
set_option maxRecDepth 100000 in
theorem ex_zero (m2 : m < 18446744073709551616) :
    Calls Try.prog 3 #[.int .u64 ((0 : Nat) : Int), .int .u64 (m : Int), .int .u64 a2, .int .u64 a3, .int .u64 a4, .int .i64 a5] w fun e w' => e = .returned (.bool true) ∧ Below w.heap.size w w' := by
  have C1 := fun w => hit_any 0 m a2 a3 a4 a5 (by omega) m2 w
  rw [hr_zero] at C1
  have o1 := osame 0 (by omega)
  go_enter Try.func3, Try.ntmps3
  go_wp2_with fail
  refine (C1 _).mono ?_
  rintro e w1 ⟨rfl, hb⟩
  have hbel : Below w.heap.size w w1 := (((Below.refl _ _).alloc (Nat.le_refl _) _)).trans (hb.mono (by simp))
  clear C1 hb
  go_wp2
  go_ret
  exact ⟨rfl, hbel⟩

set_option maxHeartbeats 1000000 in
set_option maxRecDepth 100000 in
theorem ex_full (h1 : 1 ≤ h) (h2 : h < 18446744073709551616) :
    Calls Try.prog 3 #[.int .u64 (h : Int), .int .u64 ((0 : Nat) : Int), .int .u64 a2, .int .u64 a3, .int .u64 a4, .int .i64 a5] w fun e w' => e = .returned (.bool true) ∧ Below w.heap.size w w' := by
  have C1 := fun w => hit_any h 0 a2 a3 a4 a5 h2 (by omega) w
  rw [hr_one h1 h2] at C1
  have o1 := osame 4607182418800017408 (by omega)
  have d0 : ((h : Int) == 0) = false := by rw [beq_eq_false_iff_ne]; omega
  go_enter Try.func3, Try.ntmps3
  go_wp2_with fail
  refine (C1 _).mono ?_
  rintro e w1 ⟨rfl, hb⟩
  have hbel : Below w.heap.size w w1 := (((Below.refl _ _).alloc (Nat.le_refl _) _)).trans (hb.mono (by simp))
  clear C1 hb
  go_wp2
  go_ret
  exact ⟨rfl, hbel⟩

set_option maxHeartbeats 1000000 in
set_option maxRecDepth 100000 in
theorem ex_half (h1 : 1 ≤ h) (h2 : h < 18446744073709551616) :
    Calls Try.prog 3 #[.int .u64 (h : Int), .int .u64 (h : Int), .int .u64 a2, .int .u64 a3, .int .u64 a4, .int .i64 a5] w fun e w' => e = .returned (.bool true) ∧ Below w.heap.size w w' := by
  have C1 := fun w => hit_any h h a2 a3 a4 a5 h2 h2 w
  rw [hr_half h1 h2] at C1
  have o1 := osame 4602678819172646912 (by omega)
  have d0 : ((h : Int) == 0) = false := by rw [beq_eq_false_iff_ne]; omega
  go_enter Try.func3, Try.ntmps3
  go_wp2_with fail
  refine (C1 _).mono ?_
  rintro e w1 ⟨rfl, hb⟩
  have hbel : Below w.heap.size w w1 := (((Below.refl _ _).alloc (Nat.le_refl _) _)).trans (hb.mono (by simp))
  clear C1 hb
  go_wp2
  go_ret
  exact ⟨rfl, hbel⟩

set_option maxHeartbeats 1000000 in
set_option maxRecDepth 100000 in
theorem ex_model (h1 : 1 ≤ h) (m1 : 1 ≤ m) (hne : h ≠ m) (hs : h + m ≤ 9007199254740992) :
    Calls Try.prog 3 #[.int .u64 (h : Int), .int .u64 (m : Int), .int .u64 a2, .int .u64 a3, .int .u64 a4, .int .i64 a5] w fun e w' => e = .returned (.bool true) ∧ Below w.heap.size w w' := by
  have C1 := fun w => hit_any h m a2 a3 a4 a5 (by omega) (by omega) w
  have C2 := fun w => model_sum h m h1 m1 hs w
  have le1 := hr_le1 (h := h) (m := m) (by omega) (by omega)
  obtain ⟨r, hr0⟩ : ∃ r, r = hr h m := ⟨_, rfl⟩
  rw [← hr0] at C1 C2 le1
  have o1 := osame r (by omega)
  have d0 : ((h : Int) == 0) = false := by rw [beq_eq_false_iff_ne]; omega
  have d1 : ((m : Int) == 0) = false := by rw [beq_eq_false_iff_ne]; omega
  have d2 : ((h : Int) == (m : Int)) = false := by rw [beq_eq_false_iff_ne]; omega
  have d3 : decide ((h : Int) ≤ 9007199254740992) = true := decide_eq_true (by omega)
  have d4 : decide ((m : Int) ≤ 9007199254740992) = true := decide_eq_true (by omega)
  have d5 : decide ((h : Int) + (m : Int) ≤ 9007199254740992) = true := decide_eq_true (by omega)
  clear hr0 le1 hne
  go_enter Try.func3, Try.ntmps3
  go_wp2_with fail
  refine (C1 _).mono ?_
  rintro e w1 ⟨rfl, hb⟩
  have hbel : Below w.heap.size w w1 := (((Below.refl _ _).alloc (Nat.le_refl _) _)).trans (hb.mono (by simp))
  clear C1 hb
  go_wp2_with fail
  refine (C2 _).mono ?_
  rintro e w2 ⟨rfl, rfl⟩
  clear C2
  go_wp2
  go_ret
  exact ⟨rfl, hbel⟩

set_option maxHeartbeats 1000000 in
set_option maxRecDepth 100000 in
theorem ex_low_a (h1 : 1 ≤ h) (h2 : h < 18446744073709551616) (m1 : 1 ≤ m) (m2 : m < 18446744073709551616) (hlt : h < m) (g : 9007199254740992 < h) :
    Calls Try.prog 3 #[.int .u64 (h : Int), .int .u64 (m : Int), .int .u64 a2, .int .u64 a3, .int .u64 a4, .int .i64 a5] w fun e w' => e = .returned (.bool true) ∧ Below w.heap.size w w' := by
  have C1 := fun w => hit_any h m a2 a3 a4 a5 h2 m2 w
  have le1 := hr_le1 (h := h) (m := m) h2 m2
  have ps := hr_pos h1 h2 m2
  have hf := hr_low h1 (Nat.le_of_lt hlt) m2
  obtain ⟨r, hr0⟩ : ∃ r, r = hr h m := ⟨_, rfl⟩
  rw [← hr0] at C1 le1 ps hf
  have o1 := osame r (by omega)
  have o2 := ogt (x := r) (y := 0) (by omega) (by omega)
  have t3 : (FloatKind.f64.format.order r 4607182418800017408 == some .gt) = false := by rw [olt (by omega) (by omega)]; rfl
  have t4 : (FloatKind.f64.format.order r 4602678819172646912 == some .lt || FloatKind.f64.format.order r 4602678819172646912 == some .eq) = true := by
    by_cases e : r = 4602678819172646912
    · rw [e, osame _ (by omega)]; rfl
    · rw [olt (by omega) (by omega)]; rfl
  have d6 : decide ((h : Int) < (m : Int)) = true := decide_eq_true (by omega)
  have d6' : decide (h < m) = true := decide_eq_true (by omega)
  have d0 : ((h : Int) == 0) = false := by rw [beq_eq_false_iff_ne]; omega
  have d1 : ((m : Int) == 0) = false := by rw [beq_eq_false_iff_ne]; omega
  have d2 : ((h : Int) == (m : Int)) = false := by rw [beq_eq_false_iff_ne]; omega
  have d3 : decide ((h : Int) ≤ 9007199254740992) = false := decide_eq_false (by omega)
  clear hr0 le1 ps hf hlt
  go_enter Try.func3, Try.ntmps3
  go_wp2_with fail
  refine (C1 _).mono ?_
  rintro e w1 ⟨rfl, hb⟩
  have hbel : Below w.heap.size w w1 := (((Below.refl _ _).alloc (Nat.le_refl _) _)).trans (hb.mono (by simp))
  clear C1 hb
  go_wp2
  go_ret
  exact ⟨rfl, hbel⟩

set_option maxHeartbeats 1000000 in
set_option maxRecDepth 100000 in
theorem ex_high_a (h1 : 1 ≤ h) (h2 : h < 18446744073709551616) (m1 : 1 ≤ m) (m2 : m < 18446744073709551616) (hlt : m < h) (g : 9007199254740992 < h) :
    Calls Try.prog 3 #[.int .u64 (h : Int), .int .u64 (m : Int), .int .u64 a2, .int .u64 a3, .int .u64 a4, .int .i64 a5] w fun e w' => e = .returned (.bool true) ∧ Below w.heap.size w w' := by
  have C1 := fun w => hit_any h m a2 a3 a4 a5 h2 m2 w
  have le1 := hr_le1 (h := h) (m := m) h2 m2
  have ps := hr_pos h1 h2 m2
  have hf := hr_high h2 m1 (Nat.le_of_lt hlt)
  obtain ⟨r, hr0⟩ : ∃ r, r = hr h m := ⟨_, rfl⟩
  rw [← hr0] at C1 le1 ps hf
  have o1 := osame r (by omega)
  have o2 := ogt (x := r) (y := 0) (by omega) (by omega)
  have t3 : (FloatKind.f64.format.order r 4607182418800017408 == some .gt) = false := by
    by_cases e : r = 4607182418800017408
    · rw [e, osame _ (by omega)]; rfl
    · rw [olt (by omega) (by omega)]; rfl
  have t4 : (FloatKind.f64.format.order r 4602678819172646912 == some .gt || FloatKind.f64.format.order r 4602678819172646912 == some .eq) = true := by
    by_cases e : r = 4602678819172646912
    · rw [e, osame _ (by omega)]; rfl
    · rw [ogt (by omega) (by omega)]; rfl
  have d6 : decide ((h : Int) < (m : Int)) = false := decide_eq_false (by omega)
  have d6' : decide (h < m) = false := decide_eq_false (by omega)
  have d0 : ((h : Int) == 0) = false := by rw [beq_eq_false_iff_ne]; omega
  have d1 : ((m : Int) == 0) = false := by rw [beq_eq_false_iff_ne]; omega
  have d2 : ((h : Int) == (m : Int)) = false := by rw [beq_eq_false_iff_ne]; omega
  have d3 : decide ((h : Int) ≤ 9007199254740992) = false := decide_eq_false (by omega)
  clear hr0 le1 ps hf hlt
  go_enter Try.func3, Try.ntmps3
  go_wp2_with fail
  refine (C1 _).mono ?_
  rintro e w1 ⟨rfl, hb⟩
  have hbel : Below w.heap.size w w1 := (((Below.refl _ _).alloc (Nat.le_refl _) _)).trans (hb.mono (by simp))
  clear C1 hb
  go_wp2
  go_ret
  exact ⟨rfl, hbel⟩

set_option maxHeartbeats 1000000 in
set_option maxRecDepth 100000 in
theorem ex_low_b (h1 : 1 ≤ h) (h2 : h < 18446744073709551616) (m1 : 1 ≤ m) (m2 : m < 18446744073709551616) (hlt : h < m) (g0 : h ≤ 9007199254740992) (g : 9007199254740992 < m) :
    Calls Try.prog 3 #[.int .u64 (h : Int), .int .u64 (m : Int), .int .u64 a2, .int .u64 a3, .int .u64 a4, .int .i64 a5] w fun e w' => e = .returned (.bool true) ∧ Below w.heap.size w w' := by
  have C1 := fun w => hit_any h m a2 a3 a4 a5 h2 m2 w
  have le1 := hr_le1 (h := h) (m := m) h2 m2
  have ps := hr_pos h1 h2 m2
  have hf := hr_low h1 (Nat.le_of_lt hlt) m2
  obtain ⟨r, hr0⟩ : ∃ r, r = hr h m := ⟨_, rfl⟩
  rw [← hr0] at C1 le1 ps hf
  have o1 := osame r (by omega)
  have o2 := ogt (x := r) (y := 0) (by omega) (by omega)
  have t3 : (FloatKind.f64.format.order r 4607182418800017408 == some .gt) = false := by rw [olt (by omega) (by omega)]; rfl
  have t4 : (FloatKind.f64.format.order r 4602678819172646912 == some .lt || FloatKind.f64.format.order r 4602678819172646912 == some .eq) = true := by
    by_cases e : r = 4602678819172646912
    · rw [e, osame _ (by omega)]; rfl
    · rw [olt (by omega) (by omega)]; rfl
  have d6 : decide ((h : Int) < (m : Int)) = true := decide_eq_true (by omega)
  have d6' : decide (h < m) = true := decide_eq_true (by omega)
  have d0 : ((h : Int) == 0) = false := by rw [beq_eq_false_iff_ne]; omega
  have d1 : ((m : Int) == 0) = false := by rw [beq_eq_false_iff_ne]; omega
  have d2 : ((h : Int) == (m : Int)) = false := by rw [beq_eq_false_iff_ne]; omega
  have d3 : decide ((h : Int) ≤ 9007199254740992) = true := decide_eq_true (by omega)
  have d4 : decide ((m : Int) ≤ 9007199254740992) = false := decide_eq_false (by omega)
  clear hr0 le1 ps hf hlt
  go_enter Try.func3, Try.ntmps3
  go_wp2_with fail
  refine (C1 _).mono ?_
  rintro e w1 ⟨rfl, hb⟩
  have hbel : Below w.heap.size w w1 := (((Below.refl _ _).alloc (Nat.le_refl _) _)).trans (hb.mono (by simp))
  clear C1 hb
  go_wp2
  go_ret
  exact ⟨rfl, hbel⟩

set_option maxHeartbeats 1000000 in
set_option maxRecDepth 100000 in
theorem ex_high_b (h1 : 1 ≤ h) (h2 : h < 18446744073709551616) (m1 : 1 ≤ m) (m2 : m < 18446744073709551616) (hlt : m < h) (g0 : h ≤ 9007199254740992) (g : 9007199254740992 < m) :
    Calls Try.prog 3 #[.int .u64 (h : Int), .int .u64 (m : Int), .int .u64 a2, .int .u64 a3, .int .u64 a4, .int .i64 a5] w fun e w' => e = .returned (.bool true) ∧ Below w.heap.size w w' := by
  have C1 := fun w => hit_any h m a2 a3 a4 a5 h2 m2 w
  have le1 := hr_le1 (h := h) (m := m) h2 m2
  have ps := hr_pos h1 h2 m2
  have hf := hr_high h2 m1 (Nat.le_of_lt hlt)
  obtain ⟨r, hr0⟩ : ∃ r, r = hr h m := ⟨_, rfl⟩
  rw [← hr0] at C1 le1 ps hf
  have o1 := osame r (by omega)
  have o2 := ogt (x := r) (y := 0) (by omega) (by omega)
  have t3 : (FloatKind.f64.format.order r 4607182418800017408 == some .gt) = false := by
    by_cases e : r = 4607182418800017408
    · rw [e, osame _ (by omega)]; rfl
    · rw [olt (by omega) (by omega)]; rfl
  have t4 : (FloatKind.f64.format.order r 4602678819172646912 == some .gt || FloatKind.f64.format.order r 4602678819172646912 == some .eq) = true := by
    by_cases e : r = 4602678819172646912
    · rw [e, osame _ (by omega)]; rfl
    · rw [ogt (by omega) (by omega)]; rfl
  have d6 : decide ((h : Int) < (m : Int)) = false := decide_eq_false (by omega)
  have d6' : decide (h < m) = false := decide_eq_false (by omega)
  have d0 : ((h : Int) == 0) = false := by rw [beq_eq_false_iff_ne]; omega
  have d1 : ((m : Int) == 0) = false := by rw [beq_eq_false_iff_ne]; omega
  have d2 : ((h : Int) == (m : Int)) = false := by rw [beq_eq_false_iff_ne]; omega
  have d3 : decide ((h : Int) ≤ 9007199254740992) = true := decide_eq_true (by omega)
  have d4 : decide ((m : Int) ≤ 9007199254740992) = false := decide_eq_false (by omega)
  clear hr0 le1 ps hf hlt
  go_enter Try.func3, Try.ntmps3
  go_wp2_with fail
  refine (C1 _).mono ?_
  rintro e w1 ⟨rfl, hb⟩
  have hbel : Below w.heap.size w w1 := (((Below.refl _ _).alloc (Nat.le_refl _) _)).trans (hb.mono (by simp))
  clear C1 hb
  go_wp2
  go_ret
  exact ⟨rfl, hbel⟩

set_option maxHeartbeats 1000000 in
set_option maxRecDepth 100000 in
theorem ex_low_c (h1 : 1 ≤ h) (h2 : h < 18446744073709551616) (m1 : 1 ≤ m) (m2 : m < 18446744073709551616) (hlt : h < m) (g0 : h ≤ 9007199254740992) (g1 : m ≤ 9007199254740992) (g : 9007199254740992 < h + m) :
    Calls Try.prog 3 #[.int .u64 (h : Int), .int .u64 (m : Int), .int .u64 a2, .int .u64 a3, .int .u64 a4, .int .i64 a5] w fun e w' => e = .returned (.bool true) ∧ Below w.heap.size w w' := by
  have C1 := fun w => hit_any h m a2 a3 a4 a5 h2 m2 w
  have le1 := hr_le1 (h := h) (m := m) h2 m2
  have ps := hr_pos h1 h2 m2
  have hf := hr_low h1 (Nat.le_of_lt hlt) m2
  obtain ⟨r, hr0⟩ : ∃ r, r = hr h m := ⟨_, rfl⟩
  rw [← hr0] at C1 le1 ps hf
  have o1 := osame r (by omega)
  have o2 := ogt (x := r) (y := 0) (by omega) (by omega)
  have t3 : (FloatKind.f64.format.order r 4607182418800017408 == some .gt) = false := by rw [olt (by omega) (by omega)]; rfl
  have t4 : (FloatKind.f64.format.order r 4602678819172646912 == some .lt || FloatKind.f64.format.order r 4602678819172646912 == some .eq) = true := by
    by_cases e : r = 4602678819172646912
    · rw [e, osame _ (by omega)]; rfl
    · rw [olt (by omega) (by omega)]; rfl
  have d6 : decide ((h : Int) < (m : Int)) = true := decide_eq_true (by omega)
  have d6' : decide (h < m) = true := decide_eq_true (by omega)
  have d0 : ((h : Int) == 0) = false := by rw [beq_eq_false_iff_ne]; omega
  have d1 : ((m : Int) == 0) = false := by rw [beq_eq_false_iff_ne]; omega
  have d2 : ((h : Int) == (m : Int)) = false := by rw [beq_eq_false_iff_ne]; omega
  have d3 : decide ((h : Int) ≤ 9007199254740992) = true := decide_eq_true (by omega)
  have d4 : decide ((m : Int) ≤ 9007199254740992) = true := decide_eq_true (by omega)
  have d5 : decide ((h : Int) + (m : Int) ≤ 9007199254740992) = false := decide_eq_false (by omega)
  clear hr0 le1 ps hf hlt
  go_enter Try.func3, Try.ntmps3
  go_wp2_with fail
  refine (C1 _).mono ?_
  rintro e w1 ⟨rfl, hb⟩
  have hbel : Below w.heap.size w w1 := (((Below.refl _ _).alloc (Nat.le_refl _) _)).trans (hb.mono (by simp))
  clear C1 hb
  go_wp2
  go_ret
  exact ⟨rfl, hbel⟩

set_option maxHeartbeats 1000000 in
set_option maxRecDepth 100000 in
theorem ex_high_c (h1 : 1 ≤ h) (h2 : h < 18446744073709551616) (m1 : 1 ≤ m) (m2 : m < 18446744073709551616) (hlt : m < h) (g0 : h ≤ 9007199254740992) (g1 : m ≤ 9007199254740992) (g : 9007199254740992 < h + m) :
    Calls Try.prog 3 #[.int .u64 (h : Int), .int .u64 (m : Int), .int .u64 a2, .int .u64 a3, .int .u64 a4, .int .i64 a5] w fun e w' => e = .returned (.bool true) ∧ Below w.heap.size w w' := by
  have C1 := fun w => hit_any h m a2 a3 a4 a5 h2 m2 w
  have le1 := hr_le1 (h := h) (m := m) h2 m2
  have ps := hr_pos h1 h2 m2
  have hf := hr_high h2 m1 (Nat.le_of_lt hlt)
  obtain ⟨r, hr0⟩ : ∃ r, r = hr h m := ⟨_, rfl⟩
  rw [← hr0] at C1 le1 ps hf
  have o1 := osame r (by omega)
  have o2 := ogt (x := r) (y := 0) (by omega) (by omega)
  have t3 : (FloatKind.f64.format.order r 4607182418800017408 == some .gt) = false := by
    by_cases e : r = 4607182418800017408
    · rw [e, osame _ (by omega)]; rfl
    · rw [olt (by omega) (by omega)]; rfl
  have t4 : (FloatKind.f64.format.order r 4602678819172646912 == some .gt || FloatKind.f64.format.order r 4602678819172646912 == some .eq) = true := by
    by_cases e : r = 4602678819172646912
    · rw [e, osame _ (by omega)]; rfl
    · rw [ogt (by omega) (by omega)]; rfl
  have d6 : decide ((h : Int) < (m : Int)) = false := decide_eq_false (by omega)
  have d6' : decide (h < m) = false := decide_eq_false (by omega)
  have d0 : ((h : Int) == 0) = false := by rw [beq_eq_false_iff_ne]; omega
  have d1 : ((m : Int) == 0) = false := by rw [beq_eq_false_iff_ne]; omega
  have d2 : ((h : Int) == (m : Int)) = false := by rw [beq_eq_false_iff_ne]; omega
  have d3 : decide ((h : Int) ≤ 9007199254740992) = true := decide_eq_true (by omega)
  have d4 : decide ((m : Int) ≤ 9007199254740992) = true := decide_eq_true (by omega)
  have d5 : decide ((h : Int) + (m : Int) ≤ 9007199254740992) = false := decide_eq_false (by omega)
  clear hr0 le1 ps hf hlt
  go_enter Try.func3, Try.ntmps3
  go_wp2_with fail
  refine (C1 _).mono ?_
  rintro e w1 ⟨rfl, hb⟩
  have hbel : Below w.heap.size w w1 := (((Below.refl _ _).alloc (Nat.le_refl _) _)).trans (hb.mono (by simp))
  clear C1 hb
  go_wp2
  go_ret
  exact ⟨rfl, hbel⟩
end
end Go.Proofs.Qxb6002901a
