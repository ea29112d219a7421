/-
  THE SHELL OF A PROOF OF 'Rows.FnEntryHeaderCanonicalSaid' ('example.com/packlode/packlode/zzlaws_internal_recipe_b1.FnEntryHeaderCanonical'), WRITTEN BY PROGRAM (proof-skeleton.mjs) off the guide's print.
  The walk is filled; the world's limb is 'Below', since an append that may grow leaves a world that is a variable.
-/
import Derived.Test.Qxb6002678aRows
import Derived.WalkKit
import Derived.ProofKit
import Derived.OpenShut
import Derived.ShutString
import Derived.ChangeOld
import Derived.Below
import Derived.Deep.QuietTactic
import Derived.BigQuiet
import Derived.Test.Qxb6002678aHdr
namespace Go.Proofs.Qxb6002678a.fnEntryHeaderCanonical
open Go.ChangeShapes Go.WideShapes Go.ChangeAt Go.RowKit
open Go.ChangeMaps (open_string shut_string)
set_option linter.unusedVariables false      -- a walk need not use every 'w<i>' (that an integer argument fits its kind)

theorem own : ownKnob Try.prog.godebug = none := by kernel_rfl

/-! ### STEP 1: THE WALK: the Go text returns true. 'Grown w w'': the world has at most new blocks (Derived/RowKit3.lean). Part the cases AHEAD of 'go_enter' where a test parts the walk; take each callee by a contract of your own. -/
theorem walk (a0 : Int) (a1 : Int) (w0 : (Lit.int .i64 a0).wf = true) (w1 : (Lit.int .i64 a1).wf = true) (w : World) :
    Calls Try.prog 5 #[.int .i64 a0, .int .i64 a1] w fun e w' => e = .returned (.bool true) ∧ Below w.heap.size w w' := by
  have hb1 := bounds_i64 w1
  by_cases hneg : a1 < 0
  · go_enter Try.func5, Try.ntmps5
    go_wp2
    go_ret
    exact ⟨rfl, Below.refl _ _⟩
  · obtain ⟨s, rfl⟩ : ∃ s : Nat, a1 = (s : Int) := ⟨a1.toNat, by omega⟩
    have hs : s ≤ 9223372036854775807 := by omega
    have hn : ¬ (s : Int) < 0 := hneg
    obtain ⟨h, hh⟩ : ∃ h, h = hdr 9 (hdr0 a0 s).toNat (s / 16) := ⟨_, rfl⟩
    have C := zzhdr_any w.heap.size [] (.slice none 0 0) a0 s hs w (own_nil _ _) (by simp) (Nat.le_refl _)
    simp only [List.nil_append] at C
    rw [← hh] at C
    clear hneg
    by_cases h16 : s < 16
    · have h1 : h.length = 1 := by rw [hh, show s / 16 = 0 by omega, hdr_zero]; rfl
      have H1 : Hid (h.length = 1) := h1
      clear h1 hh
      go_enter Try.func5, Try.ntmps5
      go_wp2_with (go_at_call 12; refine C.mono ?_; rintro e w' ⟨g, cap, rfl, ho, hk⟩)
      go_ret
      exact ⟨by rw [H1.out]; rfl, hk.below⟩
    · have hl : 2 ≤ h.length := by rw [hh]; exact hdr_long 8 _ _ (by omega)
      have hl2 : h.length ≤ 10 := by rw [hh]; exact hdr_le 9 _ _
      have hz : h.getD (h.length - 1) 0 ≠ 0 := by rw [hh]; exact hdr_last 9 _ _ (by omega) (by omega)
      obtain ⟨L, hL⟩ : ∃ L, L = h.length := ⟨_, rfl⟩
      obtain ⟨z, hz2⟩ : ∃ z, z = h.getD (h.length - 1) 0 := ⟨_, rfl⟩
      have D : Calls Try.prog 12 #[.slice none 0 0, .int .i64 a0, .int .i64 (s : Int)] w fun e w' => ∃ g cap, e = .returned (.slice (some ⟨g, 0, none⟩) L cap) ∧ w'.cell? ⟨g, L - 1, none⟩ = some (.int .u8 (z : Int)) ∧ Below w.heap.size w w' := by
        refine C.mono ?_
        rintro e w' ⟨g, cap, rfl, ho, hk⟩
        obtain ⟨g2, cap2, hv, _, _, _, _, hcell, _⟩ := ho.shape (by omega)
        cases hv
        exact ⟨g, cap, by rw [hL], by rw [hL, hz2]; exact hcell _ (by omega), hk.below⟩
      have hz3 : z ≠ 0 := by rw [hz2]; exact hz
      have hL1 : 2 ≤ L := by omega
      have hL2 : L ≤ 10 := by omega
      clear hh hl hl2 hz hL hz2 C
      have hne : ((z : Int) != 0) = true := by simp; omega
      go_enter Try.func5, Try.ntmps5
      go_wp2_with (go_at_call 12; refine D.mono ?_; rintro e w' ⟨g, cap, rfl, hc, hk⟩)
      go_ret
      exact ⟨rfl, hk⟩

/-! ### THE ROW's STEP: WRITTEN OUT: LEAVE IT -/
set_option maxRecDepth 100000 in
theorem lifted (os : Os) (started : os.Started) (H : Type) (enc : TypeId × Value → H) :
    ReturnsInHanded {} Try.checked os 5 .any (Rows.fnEntryHeaderCanonicalSpec.pre6 enc Try.prog Try.f5 Rows.fnEntryHeaderCanonicalRow.domain false) (Rows.fnEntryHeaderCanonicalSpec.post enc Try.prog Try.f5 false true false false) := by
  refine returnsInHanded_of_change (C := Try.checked) own started (by kernel_rfl) Try.func5
    (ChangeSpec.witness6 (enc := enc) (C := Try.checked) false ⟨#[], #[.int .i64 0, .int .i64 0], []⟩ 8 (by kernel_rfl) (by kernel_rfl) (by kernel_rfl) (by kernel_rfl)) ?_
  intro W base args ds gs before hval0 hW hcnd _
  have hval : ∀ (j : Nat) t v, Try.f5.params[j]? = some t → args[j]? = some v → Value.okWide Try.prog W .any base t v := hval0
  have hW' := hW
  obtain ⟨p, q, hA0, hV, rfl, hfz, hnd⟩ := hW
  have hA : DataW.TrodAll enc Try.prog W 0 (fun _ => true) true Try.f5.params.toList args.toList ds p := hA0
  rw [Try.params5] at hA hval
  obtain ⟨v0, vs0, d0, ds0, p0, q0, hargs, rfl, rfl, h0, r0⟩ := trodAll_cons hA
  obtain ⟨v1, vs1, d1, ds1, p1, q1, rfl, rfl, rfl, h1, r1⟩ := trodAll_cons r0
  obtain ⟨rfl, rfl, rfl⟩ := trodAll_nil r1
  obtain rfl : args = #[v0, v1] := by cases args; simp_all
  obtain ⟨rfl, rfl⟩ := trodVars_none hV
  obtain ⟨a0, rfl, rfl, rfl, w0⟩ := open_int Try.underlying3 (hval 0 3 v0 rfl rfl) h0
  obtain ⟨a1, rfl, rfl, rfl, w1⟩ := open_int Try.underlying3 (hval 1 3 v1 rfl rfl) h1
  clear hA0 hval0
  simp only [List.append_nil] at hW'
  refine (walk a0 a1 w0 w1 W).mono fun e W' ⟨he, bel⟩ => ?_
  subst he
  exact ⟨_, rfl, _, _, _, [], _, [], hW', trodAll_mk1 (shut_bool Try.underlying4 _), (trodAll_cons_mk (shut_int Try.underlying3 w0) (trodAll_cons_mk (shut_int Try.underlying3 w1) trodAll_mk0)), rfl, bel.frame _, fun h => by cases h⟩

theorem over : Rows.fnEntryHeaderCanonicalRow.holds Try.pinned (OpenSpec.ofChange Rows.fnEntryHeaderCanonicalSpec) :=
  OpenClaim.holds_of_wide 5 Try.f5 rfl rfl rfl rfl rfl rfl rfl ⟨rfl, rfl, rfl, rfl, rfl⟩ rfl rfl rfl rfl rfl (by kernel_rfl) Try.func5 (by kernel_rfl)
    (of_decide_eq_true (by kernel_rfl)) (by unfold Func.isWrapper; first | (rw [if_pos (by decide +kernel)]; kernel_rfl) | (rw [if_neg (by decide +kernel)]; exact ⟨rfl, rfl⟩))
    (fun os started H enc _ => lifted os started H enc)

/-- ████ THE STATEMENT ████ -/
theorem proved : Rows.FnEntryHeaderCanonicalSaid :=
  over
#print axioms proved
end Go.Proofs.Qxb6002678a.fnEntryHeaderCanonical
