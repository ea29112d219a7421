/-
  THE WALK of (Stats).HitRate (6).
-/
import Derived.Test.Qxb6002901aRows
import Derived.Test.Qxb6002901aHit
import Derived.WalkKit
import Derived.WalkSpells
import Derived.WalkLawsBesides
import Derived.Laws.FloatArith
namespace Go.Proofs.Qxb6002901a
open Go.RowKit

theorem floatOfInt_fl (n : Nat) : floatOfInt .f64 (n : Int) = fl n := by
  show Ieee.double.nearest (decide ((n : Int) < 0)) (n : Int).natAbs 0 = _
  have : decide ((n : Int) < 0) = false := decide_eq_false (by omega)
  rw [this, Int.natAbs_natCast]
  rfl

set_option maxHeartbeats 400000 in
theorem hit_some (h m : Nat) (a b c d : Int) (h1 : 1 ≤ h) (h2 : h < 18446744073709551616) (m2 : m < 18446744073709551616) (w : World) :
    Calls Try.prog 6 #[.agg #[.int .u64 (h : Int), .int .u64 (m : Int), .int .u64 a, .int .u64 b, .int .u64 c, .int .i64 d]] w fun e w' => e = .returned (.float .f64 (hr h m)) ∧ Below w.heap.size w w' := by
  have hne : ((h : Int) == 0) = false := by rw [beq_eq_false_iff_ne]; omega
  have ha : ∀ w, (binOp .add 25 (.float .f64 (floatOfInt .f64 (h : Int))) (.float .f64 (floatOfInt .f64 (m : Int)))).run Try.prog w = .ok (.float .f64 (sm h m)) w :=
    fun w => run_float_arith w .add 25 .f64 _ _ _ (by rw [floatOfInt_fl, floatOfInt_fl]; exact add_sm h1 h2 m2)
  have hq : ∀ w, (binOp .quo 25 (.float .f64 (floatOfInt .f64 (h : Int))) (.float .f64 (sm h m))).run Try.prog w = .ok (.float .f64 (hr h m)) w :=
    fun w => run_float_arith w .quo 25 .f64 _ _ _ (by rw [floatOfInt_fl]; exact div_hr h1 h2 m2)
  go_enter Try.func6, Try.ntmps6
  go_wp2
  go_ret
  exact ⟨rfl, (Below.refl _ _).alloc (Nat.le_refl _) _⟩

set_option maxHeartbeats 400000 in
theorem hit_none (m : Nat) (a b c d : Int) (m2 : m < 18446744073709551616) (w : World) :
    Calls Try.prog 6 #[.agg #[.int .u64 0, .int .u64 (m : Int), .int .u64 a, .int .u64 b, .int .u64 c, .int .i64 d]] w fun e w' => e = .returned (.float .f64 (hr 0 m)) ∧ Below w.heap.size w w' := by
  by_cases h0 : m = 0
  · subst h0
    rw [hr_zero]
    go_enter Try.func6, Try.ntmps6
    go_wp2
    go_ret
    exact ⟨rfl, (Below.refl _ _).alloc (Nat.le_refl _) _⟩
  · have hne : ((m : Int) == 0) = false := by rw [beq_eq_false_iff_ne]; omega
    have ha : ∀ w, (binOp .add 25 (.float .f64 (floatOfInt .f64 0)) (.float .f64 (floatOfInt .f64 (m : Int)))).run Try.prog w = .ok (.float .f64 (fl m)) w :=
      fun w => run_float_arith w .add 25 .f64 _ _ _ (by rw [show (0 : Int) = ((0 : Nat) : Int) from rfl, floatOfInt_fl, floatOfInt_fl]; exact add_sm0 (by omega) m2)
    have hq : ∀ w, (binOp .quo 25 (.float .f64 (floatOfInt .f64 0)) (.float .f64 (fl m))).run Try.prog w = .ok (.float .f64 (hr 0 m)) w :=
      fun w => run_float_arith w .quo 25 .f64 _ _ _ (by rw [show (0 : Int) = ((0 : Nat) : Int) from rfl, floatOfInt_fl]; exact div_hr0 (by omega) m2)
    go_enter Try.func6, Try.ntmps6
    go_wp2
    go_ret
    exact ⟨rfl, (Below.refl _ _).alloc (Nat.le_refl _) _⟩

theorem hit_any (h m : Nat) (a b c d : Int) (h2 : h < 18446744073709551616) (m2 : m < 18446744073709551616) (w : World) :
    Calls Try.prog 6 #[.agg #[.int .u64 (h : Int), .int .u64 (m : Int), .int .u64 a, .int .u64 b, .int .u64 c, .int .i64 d]] w fun e w' => e = .returned (.float .f64 (hr h m)) ∧ Below w.heap.size w w' := by
  by_cases h0 : h = 0
  · subst h0
    exact hit_none m a b c d m2 w
  · exact hit_some h m a b c d (by omega) h2 m2 w
end Go.Proofs.Qxb6002901a
