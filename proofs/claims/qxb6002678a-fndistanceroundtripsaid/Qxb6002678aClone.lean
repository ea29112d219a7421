/-
  THE WALKS of cloneBytesB1 (11) and prefixHoldsB1 (13), and the three zzBytes (10, 15, 19).
-/
import Derived.Test.Qxb6002678aOwn
import Derived.Test.Qxb6002678aPlain
import Derived.Laws.CopyOwn
import Derived.Lib.SliceRun
import Derived.Deep.QuietTactic
import Derived.BigQuiet
namespace Go.Proofs.Qxb6002678a
open Go.RowKit

/-- 'copy' into the row that 'make' has just laid. -/
theorem copy_made (x : Addr) (len cap : Nat) (bs : List Nat) (hlen : bs.length = len) (w w1 : World) (hc : ∀ j, j < len → w.cell? (x.add j) = some (.int .u8 ((bs.getD j 0 : Nat) : Int)))
    (hown : w1.ownsRow w.heap.size 5 1 (.slice (some ⟨w.heap.size, 0, none⟩) len len) len (madeCells #[.int .u8 0] len).toList) (hg : w.grownBy w1 none) :
    ∃ w2, (Builtin.copy_ #[22, 22] 3 #[.slice (some ⟨w.heap.size, 0, none⟩) len len, .slice (some x) len cap]).run Try.prog w1 = .ok (goInt len) w2 ∧
      Own w2 w.heap.size (.slice (some ⟨w.heap.size, 0, none⟩) len len) bs ∧ Below w.heap.size w w2 := by
  obtain ⟨i0, hi, hz0, hz1, hz2⟩ := info_parts Try.info5
  have hbel : Below w.heap.size w w1 := (Below.refl _ _).grown hg (Nat.le_refl _) (fun k hk => by cases hk)
  rcases hown.2 with ⟨hv, _⟩ | ⟨g, c, cur, hv, hbg, hgg, hnc, hcm, hcs, htake⟩
  · cases hv
  · cases hv
    have hr := run_copy_row (P := Try.prog) w1 22 22 3 5 w.heap.size 0 len len x len cap cur 5 (bv bs) Try.underlying22 (by rw [hi]; simp [hz1]) hgg (by rw [bv_length, hlen]; exact (Nat.min_self len).symm)
      (by
        intro j u hu
        have hj : j < bs.length := by have := (List.getElem?_eq_some_iff.1 hu).1; rwa [bv_length] at this
        rw [bv_get bs j hj] at hu
        cases hu
        have h1 := hc j (by omega)
        have hb : (x.add j).block < w.heap.size := World.block_lt_of_cell? w _ h1
        rw [hbel.cell hb, h1])
      (by rw [bv_length]; omega) (bv_oneCell bs)
    refine ⟨_, by rw [hr, bv_length, hlen], ?_, below_setRow hbel (Nat.le_refl _) _⟩
    refine ⟨by rw [bv_length]; omega, .inr ⟨w.heap.size, len, _, by rw [hlen], Nat.le_refl _, setRow_heap w1 _ cur _ 5 _ hgg, by omega, hcm, ?_, ?_⟩⟩
    · simp [bv_length]; omega
    · simp only [List.take_zero, List.nil_append, Nat.mul_one]
      rw [← bv_length bs]
      exact List.take_left

set_option maxHeartbeats 400000 in
theorem clone_some (x : Addr) (len cap : Nat) (bs : List Nat) (hlen : bs.length = len) (hb : len ≤ 1048576) (w : World) (hc : ∀ j, j < len → w.cell? (x.add j) = some (.int .u8 ((bs.getD j 0 : Nat) : Int))) :
    Calls Try.prog 11 #[.slice (some x) len cap] w fun e w' => ∃ v, e = .returned v ∧ Own w' w.heap.size v bs ∧ Below w.heap.size w w' := by
  obtain ⟨i0, hi, hz0, hz1, hz2⟩ := info_parts Try.info5
  have hnil := fun w => Lib.run_eql_slice_nil (P := Try.prog) w 22 5 (some x) len cap 0 0 Try.underlying22
  have HL : Hid (bs.length = len) := hlen
  clear hlen
  go_enter Try.func11, Try.ntmps11
  go_wp2_with (at_make; refine wpList_make_full _ rfl _ _ 22 rfl w.heap.size 5 i0 (.int .u8 0) 1 Try.underlying22 hi hz0 hz1 .i64 .i64 _ _ len rfl rfl rfl rfl ?c1 ?c2 ?c3 ?_)
  case c1 => rw [hz2]; omega
  case c2 => unfold maxLen; omega
  case c3 => exact Nat.le_refl _
  intro w1 hown1 hgrow1
  obtain ⟨w2, hcp, hown2, hbel⟩ := copy_made x len cap bs HL.out w w1 hc (by simpa using hown1) hgrow1
  clear hc hown1
  go_wp2
  go_ret
  exact ⟨_, rfl, hown2, hbel⟩

set_option maxHeartbeats 400000 in
theorem clone_nil (w : World) :
    Calls Try.prog 11 #[.slice none 0 0] w fun e w' => ∃ v, e = .returned v ∧ Own w' w.heap.size v [] ∧ Below w.heap.size w w' := by
  have hnil := fun w => Lib.run_eql_slice_nil (P := Try.prog) w 22 5 none 0 0 0 0 Try.underlying22
  go_enter Try.func11, Try.ntmps11
  go_wp2
  go_ret
  exact ⟨_, rfl, own_nil _ _, Below.refl _ _⟩

/-- What the shells say of a slice of bytes that came in ('IsRow .u8'). -/
def ByteRow (w : World) (a : Option Addr) (len cap : Nat) (zs : List Int) : Prop :=
  (a = none ∧ len = 0 ∧ cap = 0 ∧ zs = []) ∨
  ∃ x, a = some x ∧ len ≤ cap ∧ cap ≤ maxLen ∧ zs.length = cap ∧ (∀ i, i < zs.length → w.cell? (x.add i) = some (.int .u8 (zs.getD i 0))) ∧ ∀ n ∈ zs, (Lit.int .u8 n).wf = true

theorem clone_any (a : Option Addr) (len cap : Nat) (zs : List Int) (w : World) (h : ByteRow w a len cap zs) (hb : len ≤ 1048576) :
    ∃ bs : List Nat, bs.length = len ∧ Calls Try.prog 11 #[.slice a len cap] w fun e w' => ∃ a' c', e = .returned (.slice a' len c') ∧ Own w' w.heap.size (.slice a' len c') bs ∧ Below w.heap.size w w' := by
  rcases h with ⟨rfl, rfl, rfl, _⟩ | ⟨x, rfl, hl, _, hz, hcell, hwf⟩
  · refine ⟨[], rfl, (clone_nil w).mono ?_⟩
    rintro e w' ⟨v, rfl, ho, hk⟩
    obtain ⟨a', c', rfl⟩ := ho.form
    exact ⟨a', c', rfl, ho, hk⟩
  · refine ⟨(zs.take len).map Int.toNat, by simp; omega, (clone_some x len cap ((zs.take len).map Int.toNat) (by simp; omega) hb w ?_).mono ?_⟩
    · intro j hj
      rw [hcell j (by omega)]
      have hm : zs.getD j 0 ∈ zs := by rw [List.getD_eq_getElem?_getD, List.getElem?_eq_getElem (by omega)]; simp
      have hw := hwf _ hm
      have hnn : 0 ≤ zs.getD j 0 := by simp [Lit.wf, IntKind.min, IntKind.max, IntKind.signed, IntKind.bits] at hw; simpa using hw.1
      have e : ((zs.take len).map Int.toNat).getD j 0 = (zs.getD j 0).toNat := by
        simp [List.getD_eq_getElem?_getD, hj, List.getElem?_eq_getElem (show j < zs.length by omega)]
      rw [e, Int.toNat_of_nonneg hnn]
    · rintro e w' ⟨v, rfl, ho, hk⟩
      have hlen : ((zs.take len).map Int.toNat).length = len := by simp; omega
      obtain ⟨a', c', rfl⟩ := ho.form
      rw [hlen] at ho ⊢
      exact ⟨a', c', rfl, ho, hk⟩

set_option maxHeartbeats 1000000 in
/-- prefixHoldsB1 where the second slice is empty. -/
theorem pre_nil (a1 a2 : Option Addr) (n c1 c2 : Nat) (w : World) :
    Calls Try.prog 13 #[.slice a1 n c1, .slice a2 0 c2] w fun e w' => e = .returned (.bool true) ∧ ∃ q, w' = w.drewN q := by
  have h1 : ¬ (n : Int) < 0 := by omega
  go_enter Try.func13, Try.ntmps13
  go_wp2
  refine wp_loop_rounds 1 ?_
  rw [rounds_succ]
  go_wp2
  go_ret
  exact ⟨rfl, 0, rfl⟩

set_option maxHeartbeats 1000000 in
/-- prefixHoldsB1 where the first slice begins with the second's bytes. -/
theorem pre_some (b1 o1 c1 b2 o2 c2 n m : Nat) (f : Nat → Nat) (hm : m ≤ n) (hn : m ≤ 1048576) (w : World)
    (g1 : ∀ j, j < m → w.cell? ⟨b1, o1 + j, none⟩ = some (.int .u8 ((f j : Nat) : Int))) (g2 : ∀ j, j < m → w.cell? ⟨b2, o2 + j, none⟩ = some (.int .u8 ((f j : Nat) : Int))) :
    Calls Try.prog 13 #[.slice (some ⟨b1, o1, none⟩) n c1, .slice (some ⟨b2, o2, none⟩) m c2] w fun e w' => e = .returned (.bool true) ∧ ∃ q, w' = w.drewN q := by
  have h1 : ¬ (n : Int) < (m : Int) := by omega
  go_enter Try.func13, Try.ntmps13
  go_wp2
  go_loopw [5] (fun i wr => ∃ k : Nat, k ≤ m ∧ i = .int .i64 (k : Int) ∧ ∃ q, wr = w.drewN q) (fun i _ => m - (intOf i).toNat)
  case atStart => exact ⟨0, Nat.zero_le _, rfl, 0, rfl⟩
  case round =>
    obtain ⟨k, hk, rfl, q, rfl⟩ := hrel
    by_cases hlt : k < m
    · obtain ⟨x, hx⟩ : ∃ x, x = f k := ⟨_, rfl⟩
      have e1 := g1 k hlt
      have e2 := g2 k hlt
      rw [← hx] at e1 e2
      clear hx g1 g2
      have hkn : (k : Int) < (n : Int) := by omega
      go_wp2
      go_quiet (fail)
      go_wp2
      go_roundw
      case rel => exact ⟨k + 1, by omega, by go_num, by first | exact ⟨_, rfl⟩ | (simp only [World.drewN_drewN]; exact ⟨_, rfl⟩)⟩
      case measure => simp [intOf]; omega
    · go_wp2
      go_ret
      exact ⟨rfl, q, rfl⟩

/-- prefixHoldsB1 of an owned slice and of what was appended to it. -/
theorem pre_own (base : Nat) (a a' : Option Addr) (n n' c c' : Nat) (bs ys : List Nat) (w w' : World) (h : Own w base (.slice a n c) bs) (h' : Own w' base (.slice a' n' c') (bs ++ ys)) (hk : Kept base bs.length w w') (hb : bs.length ≤ 1048576) :
    Calls Try.prog 13 #[.slice a' n' c', .slice a n c] w' fun e w2 => e = .returned (.bool true) ∧ ∃ q, w2 = w'.drewN q := by
  obtain ⟨_, _, e1⟩ := h.form
  obtain ⟨_, _, e2⟩ := h'.form
  cases e1
  cases e2
  by_cases h0 : bs.length = 0
  · rw [h0]
    exact pre_nil _ _ _ _ _ _
  · obtain ⟨g, cap, e1, _, hg, _, _, hcell, _⟩ := h.shape (by omega)
    obtain ⟨g', cap', e2, _, hg', _, _, hcell', _⟩ := h'.shape (by simp; omega)
    cases e1
    cases e2
    refine pre_some g' 0 c' g 0 c _ bs.length (fun j => bs.getD j 0) (by simp) hb w' (fun j hj => ?_) (fun j hj => ?_)
    · rw [Nat.zero_add, hcell' j (by simp; omega)]
      simp [List.getD_eq_getElem?_getD, List.getElem?_append_left hj]
    · rw [Nat.zero_add, hk.cell g j hg hj]
      exact hcell j hj

set_option maxHeartbeats 400000 in
theorem zz19_yes (a : Option Addr) (n c : Nat) (x y : Int) (h : n ≤ 1048576) (w : World) : Calls Try.prog 19 #[.slice a n c, .int .i64 x, .int .i64 y] w fun e w' => e = .returned (.bool true) ∧ w = w' := by
  go_enter Try.func19, Try.ntmps19
  go_wp2
  go_ret
  exact ⟨rfl, rfl⟩
set_option maxHeartbeats 400000 in
theorem zz19_no (a : Option Addr) (n c : Nat) (x y : Int) (h : 1048576 < n) (w : World) : Calls Try.prog 19 #[.slice a n c, .int .i64 x, .int .i64 y] w fun e w' => e = .returned (.bool false) ∧ w = w' := by
  go_enter Try.func19, Try.ntmps19
  go_wp2
  go_ret
  exact ⟨rfl, rfl⟩
set_option maxHeartbeats 400000 in
theorem zz10_yes (a : Option Addr) (n c : Nat) (x y : Int) (h : n ≤ 1048576) (w : World) : Calls Try.prog 10 #[.slice a n c, .int .i64 x, .int .i64 y] w fun e w' => e = .returned (.bool true) ∧ w = w' := by
  go_enter Try.func10, Try.ntmps10
  go_wp2
  go_ret
  exact ⟨rfl, rfl⟩
set_option maxHeartbeats 400000 in
theorem zz10_no (a : Option Addr) (n c : Nat) (x y : Int) (h : 1048576 < n) (w : World) : Calls Try.prog 10 #[.slice a n c, .int .i64 x, .int .i64 y] w fun e w' => e = .returned (.bool false) ∧ w = w' := by
  go_enter Try.func10, Try.ntmps10
  go_wp2
  go_ret
  exact ⟨rfl, rfl⟩
set_option maxHeartbeats 400000 in
theorem zz15_yes (a : Option Addr) (n c : Nat) (x : Int) (h : n ≤ 1048576) (w : World) : Calls Try.prog 15 #[.slice a n c, .int .u64 x] w fun e w' => e = .returned (.bool true) ∧ w = w' := by
  go_enter Try.func15, Try.ntmps15
  go_wp2
  go_ret
  exact ⟨rfl, rfl⟩
set_option maxHeartbeats 400000 in
theorem zz15_no (a : Option Addr) (n c : Nat) (x : Int) (h : 1048576 < n) (w : World) : Calls Try.prog 15 #[.slice a n c, .int .u64 x] w fun e w' => e = .returned (.bool false) ∧ w = w' := by
  go_enter Try.func15, Try.ntmps15
  go_wp2
  go_ret
  exact ⟨rfl, rfl⟩
end Go.Proofs.Qxb6002678a
