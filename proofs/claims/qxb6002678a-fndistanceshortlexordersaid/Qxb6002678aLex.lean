/-
  THE WALK of shortlexB1 (18).
-/
import Derived.Test.Qxb6002678aOwn
import Derived.Test.Qxb6002678aPlain
import Derived.Deep.QuietTactic
import Derived.BigQuiet
namespace Go.Proofs.Qxb6002678a
open Go.RowKit
theorem ret_int {k : IntKind} {a b : Int} (h : a = b) : Ending.returned (.int k a) = .returned (.int k b) := by rw [h]

set_option maxHeartbeats 1000000 in
theorem slx_eq (b1 o1 c1 b2 o2 c2 n : Nat) (l1 l2 : List Nat) (h1 : l1.length = n) (h2 : l2.length = n) (hn : n ≤ 1000000) (w : World)
    (g1 : ∀ j, j < n → w.cell? ⟨b1, o1 + j, none⟩ = some (.int .u8 ((l1.getD j 0 : Nat) : Int))) (g2 : ∀ j, j < n → w.cell? ⟨b2, o2 + j, none⟩ = some (.int .u8 ((l2.getD j 0 : Nat) : Int))) :
    Calls Try.prog 18 #[.slice (some ⟨b1, o1, none⟩) n c1, .slice (some ⟨b2, o2, none⟩) n c2] w fun e w' => e = .returned (.int .i64 (lex l1 l2)) ∧ ∃ q, w' = w.drewN q := by
  have H1 : Hid (l1.length = n) := h1
  have H2 : Hid (l2.length = n) := h2
  clear h1 h2
  go_enter Try.func18, Try.ntmps18
  go_wp2
  go_loopw [5] (fun i wr => ∃ k : Nat, k ≤ n ∧ i = .int .i64 (k : Int) ∧ lex l1 l2 = lex (l1.drop k) (l2.drop k) ∧ ∃ q, wr = w.drewN q) (fun i _ => n - (intOf i).toNat)
  case atStart => exact ⟨0, Nat.zero_le _, rfl, rfl, 0, rfl⟩
  case round =>
    obtain ⟨k, hk, rfl, he, q, rfl⟩ := hrel
    have HE : Hid (lex l1 l2 = lex (l1.drop k) (l2.drop k)) := he
    clear he
    by_cases hlt : k < n
    · obtain ⟨x, hx⟩ : ∃ x, x = l1.getD k 0 := ⟨_, rfl⟩
      obtain ⟨y, hy⟩ : ∃ y, y = l2.getD k 0 := ⟨_, rfl⟩
      have e1 := g1 k hlt
      have e2 := g2 k hlt
      rw [← hx] at e1
      rw [← hy] at e2
      have HS : Hid (lex l1 l2 = if x < y then -1 else if y < x then 1 else lex (l1.drop (k + 1)) (l2.drop (k + 1))) := by
        show lex l1 l2 = _
        rw [HE.out, lex_drop l1 l2 k (by rw [H1.out]; exact hlt) (by rw [H2.out]; exact hlt), hx, hy]
      clear hx hy g1 g2
      by_cases hxy : x < y
      · go_wp2
        go_quiet (fail)
        go_wp2
        go_ret
        exact ⟨ret_int (by rw [HS.out, if_pos hxy]), by simp only [World.drewN_drewN]; exact ⟨_, rfl⟩⟩
      · by_cases hyx : y < x
        · go_wp2
          go_quiet (fail)
          go_wp2
          go_quiet (fail)
          go_wp2
          go_ret
          exact ⟨ret_int (by rw [HS.out, if_neg hxy, if_pos hyx]), by simp only [World.drewN_drewN]; exact ⟨_, rfl⟩⟩
        · go_wp2
          go_quiet (fail)
          go_wp2
          go_quiet (fail)
          go_wp2
          go_roundw
          case rel => exact ⟨k + 1, by omega, by go_num, by rw [HS.out, if_neg hxy, if_neg hyx], by first | exact ⟨_, rfl⟩ | (simp only [World.drewN_drewN]; exact ⟨_, rfl⟩)⟩
          case measure => simp [intOf]; omega
    · go_wp2
      go_ret
      exact ⟨ret_int (by rw [HE.out, lex_end _ _ _ (by rw [H1.out]; omega)]), q, rfl⟩

set_option maxHeartbeats 400000 in
theorem slx_lt (a1 a2 : Option Addr) (c1 c2 n m : Nat) (h : n < m) (w : World) :
    Calls Try.prog 18 #[.slice a1 n c1, .slice a2 m c2] w fun e w' => e = .returned (.int .i64 (-1)) ∧ w' = w := by
  go_enter Try.func18, Try.ntmps18
  go_wp2
  go_ret
  exact ⟨rfl, rfl⟩
set_option maxHeartbeats 400000 in
theorem slx_gt (a1 a2 : Option Addr) (c1 c2 n m : Nat) (h : m < n) (w : World) :
    Calls Try.prog 18 #[.slice a1 n c1, .slice a2 m c2] w fun e w' => e = .returned (.int .i64 1) ∧ w' = w := by
  have h' : ¬ n < m := by omega
  go_enter Try.func18, Try.ntmps18
  go_wp2
  go_ret
  exact ⟨rfl, rfl⟩
end Go.Proofs.Qxb6002678a
