/-
  THE SHELL OF A PROOF OF 'Rows.FnDistanceShortlexOrderSaid' ('example.com/packlode/packlode/zzlaws_internal_recipe_b1.FnDistanceShortlexOrder'), WRITTEN BY PROGRAM (proof-skeleton.mjs) off the guide's print.
  The walk is filled; the world's limb is 'Below', since an append that may grow leaves a world that is a variable.
-/
import Derived.Test.Qxb6002678aRows
import Derived.WalkKit
import Derived.ProofKit
import Derived.OpenShut
import Derived.ShutString
import Derived.ChangeOld
import Derived.Below
import Derived.Test.Qxb6002678aDist
import Derived.Test.Qxb6002678aLex
namespace Go.Proofs.Qxb6002678a.fnDistanceShortlexOrder
open Go.ChangeShapes Go.WideShapes Go.ChangeAt Go.RowKit
open Go.ChangeMaps (open_string shut_string)
set_option linter.unusedVariables false      -- a walk need not use every 'w<i>' (that an integer argument fits its kind)

theorem own : ownKnob Try.prog.godebug = none := by kernel_rfl

/-- The distance's bytes made onto nil, and what can be read of them. -/
theorem dist_nil (d : Nat) (l : List Nat) (hl : l = dist d) (hd : d < 18446744073709551616) (w : World) :
    Calls Try.prog 16 #[.slice none 0 0, .int .u64 (d : Int)] w fun e w' => ∃ g cap, e = .returned (.slice (some ⟨g, 0, none⟩) l.length cap) ∧
      (∀ j, j < l.length → w'.cell? ⟨g, 0 + j, none⟩ = some (.int .u8 ((l.getD j 0 : Nat) : Int))) ∧ g < w'.heap.size ∧ Below w.heap.size w w' := by
  refine (zzdist_any w.heap.size [] (.slice none 0 0) d hd w (own_nil _ _) (by simp) (Nat.le_refl _)).mono ?_
  rintro e w' ⟨v, rfl, ho, hk⟩
  rw [List.nil_append, ← hl] at ho
  obtain ⟨g, cap, hv, _, hg, _, _, hcell, _⟩ := ho.shape (by rw [hl]; exact (dist_len d).1)
  subst hv
  exact ⟨g, cap, rfl, fun j hj => by rw [Nat.zero_add]; exact hcell j hj, hg, hk.below⟩

/-- shortlexB1 of two slices that are not empty. -/
theorem slx_any (l1 l2 : List Nat) (g1 c1 g2 c2 : Nat) (r : Int) (hr : Hid (r = if l1.length < l2.length then -1 else if l2.length < l1.length then 1 else lex l1 l2)) (h1 : l1.length ≤ 10) (h2 : l2.length ≤ 10) (w : World)
    (k1 : ∀ j, j < l1.length → w.cell? ⟨g1, 0 + j, none⟩ = some (.int .u8 ((l1.getD j 0 : Nat) : Int))) (k2 : ∀ j, j < l2.length → w.cell? ⟨g2, 0 + j, none⟩ = some (.int .u8 ((l2.getD j 0 : Nat) : Int))) :
    Calls Try.prog 18 #[.slice (some ⟨g1, 0, none⟩) l1.length c1, .slice (some ⟨g2, 0, none⟩) l2.length c2] w fun e w' => e = .returned (.int .i64 r) ∧ ∃ q, w' = w.drewN q := by
  have hr' := hr.out
  by_cases a : l1.length < l2.length
  · rw [if_pos a] at hr'
    subst hr'
    exact (slx_lt _ _ _ _ _ _ a w).mono fun e w' ⟨he, hw⟩ => ⟨he, 0, hw⟩
  · rw [if_neg a] at hr'
    by_cases b : l2.length < l1.length
    · rw [if_pos b] at hr'
      subst hr'
      exact (slx_gt _ _ _ _ _ _ b w).mono fun e w' ⟨he, hw⟩ => ⟨he, 0, hw⟩
    · rw [if_neg b] at hr'
      subst hr'
      have e : l2.length = l1.length := by omega
      rw [e] at k2 ⊢
      exact slx_eq g1 0 c1 g2 0 c2 l1.length l1 l2 rfl e (by omega) w k1 k2

/-! ### STEP 1: THE WALK -/
set_option maxHeartbeats 1000000 in
theorem walk_nat (a0 a1 : Nat) (h0 : a0 < 18446744073709551616) (h1 : a1 < 18446744073709551616) (w : World) :
    Calls Try.prog 7 #[.int .u64 (a0 : Int), .int .u64 (a1 : Int)] w fun e w' => e = .returned (.bool true) ∧ Below w.heap.size w w' := by
  obtain ⟨l1, e1⟩ : ∃ l, l = dist a0 := ⟨_, rfl⟩
  obtain ⟨l2, e2⟩ : ∃ l, l = dist a1 := ⟨_, rfl⟩
  have k1 : l1.length ≤ 10 := by rw [e1]; exact (dist_len a0).2
  have k2 : l2.length ≤ 10 := by rw [e2]; exact (dist_len a1).2
  rcases Nat.lt_trichotomy a0 a1 with hlt | heq | hgt
  · have R : Hid ((-1 : Int) = if l1.length < l2.length then -1 else if l2.length < l1.length then 1 else lex l1 l2) := by
      show (-1 : Int) = _
      rw [e1, e2]
      rcases dist_mono a0 a1 hlt h1 with h | ⟨h, k⟩
      · rw [if_pos h]
      · rw [if_neg (by omega), if_neg (by omega), k]
    have E1 : Hid (l1 = dist a0) := e1
    have E2 : Hid (l2 = dist a1) := e2
    clear e1 e2
    go_enter Try.func7, Try.ntmps7
    go_wp2_with fail
    refine (dist_nil a0 l1 E1.out h0 w).mono ?_
    rintro e w1 ⟨g1, c1, rfl, hc1, hg1, hb1⟩
    go_wp2_with fail
    refine (dist_nil a1 l2 E2.out h1 w1).mono ?_
    rintro e w2 ⟨g2, c2, rfl, hc2, hg2, hb2⟩
    go_wp2_with fail
    refine (slx_any l1 l2 g1 c1 g2 c2 (-1) R k1 k2 w2 (fun j hj => (hb2.cell (p := ⟨g1, 0 + j, none⟩) hg1).trans (hc1 j hj)) hc2).mono ?_
    rintro e w3 ⟨rfl, q, rfl⟩
    go_wp2
    go_ret
    exact ⟨rfl, below_drewN (hb1.trans (hb2.mono hb1.size)) q⟩
  · have R : Hid ((0 : Int) = if l1.length < l2.length then -1 else if l2.length < l1.length then 1 else lex l1 l2) := by
      show (0 : Int) = _
      rw [e1, e2, heq, if_neg (by omega), if_neg (by omega), lex_self]
    have hn1 : ¬ a0 < a1 := by omega
    have hn2 : ¬ a1 < a0 := by omega
    clear heq
    have E1 : Hid (l1 = dist a0) := e1
    have E2 : Hid (l2 = dist a1) := e2
    clear e1 e2
    go_enter Try.func7, Try.ntmps7
    go_wp2_with fail
    refine (dist_nil a0 l1 E1.out h0 w).mono ?_
    rintro e w1 ⟨g1, c1, rfl, hc1, hg1, hb1⟩
    go_wp2_with fail
    refine (dist_nil a1 l2 E2.out h1 w1).mono ?_
    rintro e w2 ⟨g2, c2, rfl, hc2, hg2, hb2⟩
    go_wp2_with fail
    refine (slx_any l1 l2 g1 c1 g2 c2 (0) R k1 k2 w2 (fun j hj => (hb2.cell (p := ⟨g1, 0 + j, none⟩) hg1).trans (hc1 j hj)) hc2).mono ?_
    rintro e w3 ⟨rfl, q, rfl⟩
    go_wp2
    go_ret
    exact ⟨rfl, below_drewN (hb1.trans (hb2.mono hb1.size)) q⟩
  · have R : Hid ((1 : Int) = if l1.length < l2.length then -1 else if l2.length < l1.length then 1 else lex l1 l2) := by
      show (1 : Int) = _
      rw [e1, e2]
      rcases dist_mono a1 a0 hgt h0 with h | ⟨h, k⟩
      · rw [if_neg (by omega), if_pos h]
      · rw [if_neg (by omega), if_neg (by omega), lex_swap _ _ k]
    have hn1 : ¬ a0 < a1 := by omega
    have E1 : Hid (l1 = dist a0) := e1
    have E2 : Hid (l2 = dist a1) := e2
    clear e1 e2
    go_enter Try.func7, Try.ntmps7
    go_wp2_with fail
    refine (dist_nil a0 l1 E1.out h0 w).mono ?_
    rintro e w1 ⟨g1, c1, rfl, hc1, hg1, hb1⟩
    go_wp2_with fail
    refine (dist_nil a1 l2 E2.out h1 w1).mono ?_
    rintro e w2 ⟨g2, c2, rfl, hc2, hg2, hb2⟩
    go_wp2_with fail
    refine (slx_any l1 l2 g1 c1 g2 c2 (1) R k1 k2 w2 (fun j hj => (hb2.cell (p := ⟨g1, 0 + j, none⟩) hg1).trans (hc1 j hj)) hc2).mono ?_
    rintro e w3 ⟨rfl, q, rfl⟩
    go_wp2
    go_ret
    exact ⟨rfl, below_drewN (hb1.trans (hb2.mono hb1.size)) q⟩

theorem walk (a0 : Int) (a1 : Int) (w0 : (Lit.int .u64 a0).wf = true) (w1 : (Lit.int .u64 a1).wf = true) (w : World) :
    Calls Try.prog 7 #[.int .u64 a0, .int .u64 a1] w fun e w' => e = .returned (.bool true) ∧ Below w.heap.size w w' := by
  have b0 := bounds_u64 w0
  have b1 := bounds_u64 w1
  obtain ⟨n0, rfl⟩ : ∃ n : Nat, a0 = (n : Int) := ⟨a0.toNat, by omega⟩
  obtain ⟨n1, rfl⟩ : ∃ n : Nat, a1 = (n : Int) := ⟨a1.toNat, by omega⟩
  exact walk_nat n0 n1 (by omega) (by omega) w

/-! ### THE ROW's STEP: WRITTEN OUT: LEAVE IT -/
set_option maxRecDepth 100000 in
theorem lifted (os : Os) (started : os.Started) (H : Type) (enc : TypeId × Value → H) :
    ReturnsInHanded {} Try.checked os 7 .any (Rows.fnDistanceShortlexOrderSpec.pre6 enc Try.prog Try.f7 Rows.fnDistanceShortlexOrderRow.domain false) (Rows.fnDistanceShortlexOrderSpec.post enc Try.prog Try.f7 false true false false) := by
  refine returnsInHanded_of_change (C := Try.checked) own started (by kernel_rfl) Try.func7
    (ChangeSpec.witness6 (enc := enc) (C := Try.checked) false ⟨#[], #[.int .u64 0, .int .u64 0], []⟩ 8 (by kernel_rfl) (by kernel_rfl) (by kernel_rfl) (by kernel_rfl)) ?_
  intro W base args ds gs before hval0 hW hcnd _
  have hval : ∀ (j : Nat) t v, Try.f7.params[j]? = some t → args[j]? = some v → Value.okWide Try.prog W .any base t v := hval0
  have hW' := hW
  obtain ⟨p, q, hA0, hV, rfl, hfz, hnd⟩ := hW
  have hA : DataW.TrodAll enc Try.prog W 0 (fun _ => true) true Try.f7.params.toList args.toList ds p := hA0
  rw [Try.params7] at hA hval
  obtain ⟨v0, vs0, d0, ds0, p0, q0, hargs, rfl, rfl, h0, r0⟩ := trodAll_cons hA
  obtain ⟨v1, vs1, d1, ds1, p1, q1, rfl, rfl, rfl, h1, r1⟩ := trodAll_cons r0
  obtain ⟨rfl, rfl, rfl⟩ := trodAll_nil r1
  obtain rfl : args = #[v0, v1] := by cases args; simp_all
  obtain ⟨rfl, rfl⟩ := trodVars_none hV
  obtain ⟨a0, rfl, rfl, rfl, w0⟩ := open_int Try.underlying27 (hval 0 27 v0 rfl rfl) h0
  obtain ⟨a1, rfl, rfl, rfl, w1⟩ := open_int Try.underlying27 (hval 1 27 v1 rfl rfl) h1
  clear hA0 hval0
  simp only [List.append_nil] at hW'
  refine (walk a0 a1 w0 w1 W).mono fun e W' ⟨he, bel⟩ => ?_
  subst he
  exact ⟨_, rfl, _, _, _, [], _, [], hW', trodAll_mk1 (shut_bool Try.underlying4 _), (trodAll_cons_mk (shut_int Try.underlying27 w0) (trodAll_cons_mk (shut_int Try.underlying27 w1) trodAll_mk0)), rfl, bel.frame _, fun h => by cases h⟩

theorem over : Rows.fnDistanceShortlexOrderRow.holds Try.pinned (OpenSpec.ofChange Rows.fnDistanceShortlexOrderSpec) :=
  OpenClaim.holds_of_wide 7 Try.f7 rfl rfl rfl rfl rfl rfl rfl ⟨rfl, rfl, rfl, rfl, rfl⟩ rfl rfl rfl rfl rfl (by kernel_rfl) Try.func7 (by kernel_rfl)
    (of_decide_eq_true (by kernel_rfl)) (by unfold Func.isWrapper; first | (rw [if_pos (by decide +kernel)]; kernel_rfl) | (rw [if_neg (by decide +kernel)]; exact ⟨rfl, rfl⟩))
    (fun os started H enc _ => lifted os started H enc)

/-- ████ THE STATEMENT ████ -/
theorem proved : Rows.FnDistanceShortlexOrderSaid :=
  over
#print axioms proved
end Go.Proofs.Qxb6002678a.fnDistanceShortlexOrder
