/-
  THE WALK of FnHitRateScaleAndSign (4) for counts below 2^63.
-/
import Derived.Test.Qxb6002901aRate
namespace Go.Proofs.Qxb6002901a
open Go.RowKit

theorem hit_dbl (h m : Nat) (a b c d : Int) (h2 : h < 9223372036854775808) (m2 : m < 9223372036854775808) (w : World) :
    Calls Try.prog 6 #[.agg #[.int .u64 ((h : Int) * 2), .int .u64 ((m : Int) * 2), .int .u64 a, .int .u64 b, .int .u64 c, .int .i64 d]] w fun e w' => e = .returned (.float .f64 (hr h m)) ∧ Below w.heap.size w w' := by
  have := hit_any (2 * h) (2 * m) a b c d (by omega) (by omega) w
  rw [hr_double h2 m2, show ((2 * h : Nat) : Int) = (h : Int) * 2 by omega, show ((2 * m : Nat) : Int) = (m : Int) * 2 by omega] at this
  exact this

theorem bcell {W w1 : World} (hb : Below W.heap.size W w1) : (∀ b o, b < W.heap.size → w1.cell? ⟨b, o, none⟩ = W.cell? ⟨b, o, none⟩) ∧ (∀ b o, b < W.heap.size → w1.frozen? ⟨b, o, none⟩ = W.frozen? ⟨b, o, none⟩) :=
  ⟨fun b o h => hb.cell (p := ⟨b, o, none⟩) h, fun b o h => hb.frozen (p := ⟨b, o, none⟩) h⟩

theorem ord_lt {x y : Nat} (h : x < y) (hy : y < 9218868437227405312) : FloatKind.f64.format.order x y = some .lt := by
  show Ieee.double.order x y = _
  rw [order_eq x y (by omega) hy, Nat.compare_eq_lt.2 h]
theorem ord_gt {x y : Nat} (h : y < x) (hx : x < 9218868437227405312) : FloatKind.f64.format.order x y = some .gt := by
  show Ieee.double.order x y = _
  rw [order_eq x y hx (by omega), Nat.compare_eq_gt.2 h]
theorem ord_same (x : Nat) (hx : x < 9218868437227405312) : FloatKind.f64.format.order x x = some .eq := ord_eq x hx

set_option maxHeartbeats 2000000 in
set_option maxRecDepth 100000 in
theorem scale_walk (h m : Nat) (a2 a3 a4 a5 : Int) (h2 : h < 9223372036854775808) (m2 : m < 9223372036854775808) (w : World) :
    Calls Try.prog 4 #[.int .u64 (h : Int), .int .u64 (m : Int), .int .u64 a2, .int .u64 a3, .int .u64 a4, .int .i64 a5] w fun e w' => e = .returned (.bool true) ∧ Below w.heap.size w w' := by
  have C1 := fun w => hit_any h m a2 a3 a4 a5 (by omega) (by omega) w
  have C2 := fun w => hit_dbl h m a2 a3 a4 a5 h2 m2 w
  have le1 := hr_le1 (h := h) (m := m) (by omega) (by omega)
  have F0 : h = 0 → hr h m = 0 := fun e => by rw [e, hr_zero]
  have F1 : 1 ≤ h → 4503599627370496 ≤ hr h m := fun e => hr_pos e (by omega) (by omega)
  have F2 : 1 ≤ h → m = 0 → hr h m = 4607182418800017408 := fun e1 e2 => by rw [e2]; exact hr_one e1 (by omega)
  have F3 : 1 ≤ m → h + m ≤ 9007199254740992 → hr h m < 4607182418800017408 := fun e1 e2 => hr_lt1 e1 e2
  obtain ⟨r, hr0⟩ : ∃ r, r = hr h m := ⟨_, rfl⟩
  rw [← hr0] at C1 C2 le1 F0 F1 F2 F3
  clear hr0
  have o1 := ord_same r (by omega)
  have g1 : ¬ (9223372036854775808 : Int) ≤ (h : Int) := by omega
  have g2 : ¬ (9223372036854775808 : Int) ≤ (m : Int) := by omega
  rcases (show (h = 0 ∧ m = 0) ∨ (h = 0 ∧ 1 ≤ m ∧ h + m ≤ 9007199254740992) ∨ (h = 0 ∧ 1 ≤ m ∧ 9007199254740992 < h + m) ∨ (1 ≤ h ∧ m = 0) ∨ (1 ≤ h ∧ 1 ≤ m ∧ h + m ≤ 9007199254740992) ∨ (1 ≤ h ∧ 1 ≤ m ∧ 9007199254740992 < h + m) from by omega) with ⟨e1, e2⟩ | ⟨e1, e2, e3⟩ | ⟨e1, e2, e3⟩ | ⟨e1, e2⟩ | ⟨e1, e2, e3⟩ | ⟨e1, e2, e3⟩
  · have hr0 := F0 e1
    have o2 : FloatKind.f64.format.order r 0 = some .eq := by rw [hr0]; exact ord_same 0 (by omega)
    have d1 : decide ((0 : Int) < (h : Int)) = false := decide_eq_false (by omega)
    have d1' : decide (0 < h) = false := decide_eq_false (by omega)
    have d2 : decide ((0 : Int) < (m : Int)) = false := decide_eq_false (by omega)
    have d2' : decide (0 < m) = false := decide_eq_false (by omega)
    clear F0 F1 F2 F3 e1 e2 hr0 le1
    go_enter Try.func4, Try.ntmps4
    go_wp2_with fail
    refine (C1 _).mono ?_
    rintro e w1 ⟨rfl, hb⟩
    obtain ⟨hc, hf⟩ := bcell hb
    have hz : w.heap.size + 1 < w1.heap.size := by have := hb.size; simp at this; omega
    go_wp2_with fail
    refine (C2 _).mono ?_
    rintro e w2 ⟨rfl, hb2⟩
    have hbel : Below w.heap.size w w2 := (((Below.refl _ _).alloc (Nat.le_refl _) _).alloc (by simp) _).trans ((hb.mono (by simp; omega)).trans (hb2.mono (by omega)))
    clear hc hf C1 C2
    go_wp2
    go_ret
    exact ⟨rfl, hbel⟩
  · have hr0 := F0 e1
    have o2 : FloatKind.f64.format.order r 0 = some .eq := by rw [hr0]; exact ord_same 0 (by omega)
    have o3 : FloatKind.f64.format.order r 4607182418800017408 = some .lt := ord_lt (F3 e2 e3) (by omega)
    have d1 : decide ((0 : Int) < (h : Int)) = false := decide_eq_false (by omega)
    have d1' : decide (0 < h) = false := decide_eq_false (by omega)
    have d2 : decide ((0 : Int) < (m : Int)) = true := decide_eq_true (by omega)
    have d2' : decide (0 < m) = true := decide_eq_true (by omega)
    have d3 : decide ((h : Int) + (m : Int) ≤ 9007199254740992) = true := decide_eq_true (by omega)
    clear F0 F1 F2 F3 e1 e2 e3 hr0 le1
    go_enter Try.func4, Try.ntmps4
    go_wp2_with fail
    refine (C1 _).mono ?_
    rintro e w1 ⟨rfl, hb⟩
    obtain ⟨hc, hf⟩ := bcell hb
    have hz : w.heap.size + 1 < w1.heap.size := by have := hb.size; simp at this; omega
    go_wp2_with fail
    refine (C2 _).mono ?_
    rintro e w2 ⟨rfl, hb2⟩
    have hbel : Below w.heap.size w w2 := (((Below.refl _ _).alloc (Nat.le_refl _) _).alloc (by simp) _).trans ((hb.mono (by simp; omega)).trans (hb2.mono (by omega)))
    clear hc hf C1 C2
    go_wp2
    go_ret
    exact ⟨rfl, hbel⟩
  · have hr0 := F0 e1
    have o2 : FloatKind.f64.format.order r 0 = some .eq := by rw [hr0]; exact ord_same 0 (by omega)
    have d1 : decide ((0 : Int) < (h : Int)) = false := decide_eq_false (by omega)
    have d1' : decide (0 < h) = false := decide_eq_false (by omega)
    have d2 : decide ((0 : Int) < (m : Int)) = true := decide_eq_true (by omega)
    have d2' : decide (0 < m) = true := decide_eq_true (by omega)
    have d3 : decide ((h : Int) + (m : Int) ≤ 9007199254740992) = false := decide_eq_false (by omega)
    clear F0 F1 F2 F3 e1 e2 e3 hr0 le1
    go_enter Try.func4, Try.ntmps4
    go_wp2_with fail
    refine (C1 _).mono ?_
    rintro e w1 ⟨rfl, hb⟩
    obtain ⟨hc, hf⟩ := bcell hb
    have hz : w.heap.size + 1 < w1.heap.size := by have := hb.size; simp at this; omega
    go_wp2_with fail
    refine (C2 _).mono ?_
    rintro e w2 ⟨rfl, hb2⟩
    have hbel : Below w.heap.size w w2 := (((Below.refl _ _).alloc (Nat.le_refl _) _).alloc (by simp) _).trans ((hb.mono (by simp; omega)).trans (hb2.mono (by omega)))
    clear hc hf C1 C2
    go_wp2
    go_ret
    exact ⟨rfl, hbel⟩
  · have hp := F1 e1
    have hr1 := F2 e1 e2
    have o2 : FloatKind.f64.format.order r 0 = some .gt := ord_gt (by omega) (by omega)
    have o3 : FloatKind.f64.format.order r 4607182418800017408 = some .eq := by rw [hr1]; exact ord_same _ (by omega)
    have d1 : decide ((0 : Int) < (h : Int)) = true := decide_eq_true (by omega)
    have d1' : decide (0 < h) = true := decide_eq_true (by omega)
    have d2 : ((m : Int) == 0) = true := by rw [beq_iff_eq]; omega
    have d3 : decide ((0 : Int) < (m : Int)) = false := decide_eq_false (by omega)
    have d3' : decide (0 < m) = false := decide_eq_false (by omega)
    clear F0 F1 F2 F3 e1 e2 hp hr1 le1
    go_enter Try.func4, Try.ntmps4
    go_wp2_with fail
    refine (C1 _).mono ?_
    rintro e w1 ⟨rfl, hb⟩
    obtain ⟨hc, hf⟩ := bcell hb
    have hz : w.heap.size + 1 < w1.heap.size := by have := hb.size; simp at this; omega
    go_wp2_with fail
    refine (C2 _).mono ?_
    rintro e w2 ⟨rfl, hb2⟩
    have hbel : Below w.heap.size w w2 := (((Below.refl _ _).alloc (Nat.le_refl _) _).alloc (by simp) _).trans ((hb.mono (by simp; omega)).trans (hb2.mono (by omega)))
    clear hc hf C1 C2
    go_wp2
    go_ret
    exact ⟨rfl, hbel⟩
  · have hp := F1 e1
    have hr1 := F3 e2 e3
    have o2 : FloatKind.f64.format.order r 0 = some .gt := ord_gt (by omega) (by omega)
    have o3 : FloatKind.f64.format.order r 4607182418800017408 = some .lt := ord_lt hr1 (by omega)
    have d1 : decide ((0 : Int) < (h : Int)) = true := decide_eq_true (by omega)
    have d1' : decide (0 < h) = true := decide_eq_true (by omega)
    have d2 : decide ((0 : Int) < (m : Int)) = true := decide_eq_true (by omega)
    have d2' : decide (0 < m) = true := decide_eq_true (by omega)
    have d3 : decide ((h : Int) + (m : Int) ≤ 9007199254740992) = true := decide_eq_true (by omega)
    have d4 : ((m : Int) == 0) = false := by rw [beq_eq_false_iff_ne]; omega
    clear F0 F1 F2 F3 e1 e2 e3 hp hr1 le1
    go_enter Try.func4, Try.ntmps4
    go_wp2_with fail
    refine (C1 _).mono ?_
    rintro e w1 ⟨rfl, hb⟩
    obtain ⟨hc, hf⟩ := bcell hb
    have hz : w.heap.size + 1 < w1.heap.size := by have := hb.size; simp at this; omega
    go_wp2_with fail
    refine (C2 _).mono ?_
    rintro e w2 ⟨rfl, hb2⟩
    have hbel : Below w.heap.size w w2 := (((Below.refl _ _).alloc (Nat.le_refl _) _).alloc (by simp) _).trans ((hb.mono (by simp; omega)).trans (hb2.mono (by omega)))
    clear hc hf C1 C2
    go_wp2
    go_ret
    exact ⟨rfl, hbel⟩
  · have hp := F1 e1
    have o2 : FloatKind.f64.format.order r 0 = some .gt := ord_gt (by omega) (by omega)
    have d1 : decide ((0 : Int) < (h : Int)) = true := decide_eq_true (by omega)
    have d1' : decide (0 < h) = true := decide_eq_true (by omega)
    have d2 : decide ((0 : Int) < (m : Int)) = true := decide_eq_true (by omega)
    have d2' : decide (0 < m) = true := decide_eq_true (by omega)
    have d3 : decide ((h : Int) + (m : Int) ≤ 9007199254740992) = false := decide_eq_false (by omega)
    have d4 : ((m : Int) == 0) = false := by rw [beq_eq_false_iff_ne]; omega
    clear F0 F1 F2 F3 e1 e2 e3 hp le1
    go_enter Try.func4, Try.ntmps4
    go_wp2_with fail
    refine (C1 _).mono ?_
    rintro e w1 ⟨rfl, hb⟩
    obtain ⟨hc, hf⟩ := bcell hb
    have hz : w.heap.size + 1 < w1.heap.size := by have := hb.size; simp at this; omega
    go_wp2_with fail
    refine (C2 _).mono ?_
    rintro e w2 ⟨rfl, hb2⟩
    have hbel : Below w.heap.size w w2 := (((Below.refl _ _).alloc (Nat.le_refl _) _).alloc (by simp) _).trans ((hb.mono (by simp; omega)).trans (hb2.mono (by omega)))
    clear hc hf C1 C2
    go_wp2
    go_ret
    exact ⟨rfl, hbel⟩
end Go.Proofs.Qxb6002901a
