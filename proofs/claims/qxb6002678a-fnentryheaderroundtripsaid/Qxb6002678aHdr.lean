/-
  THE WALKS of appendEntryHeader (23) and ZZAppendEntryHeader (12).
-/
import Derived.Test.Qxb6002678aOwn
import Derived.Test.Qxb6002678aPlain
namespace Go.Proofs.Qxb6002678a
open Go.RowKit

/-- A header's first byte, as the Go text reckons it. -/
def hdr0 (t s : Int) : Int := bits .or .i64 (wrap64 (t * 16)) (bits .and .i64 s 15) % 256

set_option maxHeartbeats 1000000 in
theorem hdr_any (base : Nat) (bs : List Nat) (v : Value) (t : Int) (s : Nat) (hs2 : s ≤ 9223372036854775807) (w : World) (hown : Own w base v bs) (hbs : bs.length ≤ 1048576) (hbase : base ≤ w.heap.size) :
    Calls Try.prog 23 #[v, .int .i64 t, .int .i64 (s : Int)] w fun e w' => ∃ v', e = .returned v' ∧ Own w' base v' (bs ++ hdr 9 (hdr0 t s).toNat (s / 16)) ∧ Kept base bs.length w w' := by
  obtain ⟨i0, hi, hz0, hz1, hz2⟩ := info_parts Try.info5
  obtain ⟨c0, hc0⟩ : ∃ c0 : Nat, (c0 : Int) = hdr0 t s := ⟨(hdr0 t s).toNat, by unfold hdr0; omega⟩
  have hc1 : c0 < 256 := by have : hdr0 t s < 256 := by unfold hdr0; omega
                            omega
  have HC : Hid ((c0 : Int) = hdr0 t s) := hc0
  have hfin : (hdr0 t s).toNat = c0 := by omega
  rw [hfin]
  clear hfin hc0
  go_enter Try.func23, Try.ntmps23
  go_wp2
  go_loopw [0, 2, 7] (fun b z c wr => ∃ (f c1 s1 : Nat) (pre : List Nat), hdr 9 c0 (s / 16) = pre ++ hdr f c1 s1 ∧ s1 < 128 ^ f ∧ pre.length + f = 9 ∧ c1 < 256 ∧ z = .int .i64 (s1 : Int) ∧ c = .int .u8 (c1 : Int) ∧ Own wr base b (bs ++ pre) ∧ Kept base bs.length w wr)
    (fun _ z _ _ => (intOf z).toNat)
  case atStart =>
    refine ⟨9, c0, s / 16, [], rfl, by omega, rfl, hc1, by go_num, ?_, by simpa using hown, Kept.refl _ _ _⟩
    have := HC.out
    unfold hdr0 at this
    rw [this]
  case round =>
    obtain ⟨f, c1, s1, pre, he, hs1, hpf, hc1, rfl, rfl, ho, hk⟩ := hrel
    have hsz := hk.below.size
    have HE : Hid (hdr 9 c0 (s / 16) = pre ++ hdr f c1 s1) := he
    clear he HC
    have hlt : s1 < 9223372036854775808 := Nat.lt_of_lt_of_le hs1 (show 128 ^ f ≤ 128 ^ 9 from Nat.pow_le_pow_right (by decide) (by omega))
    by_cases h0 : s1 = 0
    · subst h0
      go_wp2_with (at_builtin; refine wpList_append_keep _ rfl _ _ 22 rfl base i0 Try.underlying22 hi hz0 hz1 hz2 _ _ rfl (ho.alloc _) ⟨wr.heap.size, 0, none⟩ 1 1 [c1] rfl rfl ?c1 ?c2 ?c3 ?_)
      case c1 => exact one_new _ _
      case c2 => simp; omega
      case c3 => simp; omega
      intro v' w1 hown' hk' _
      go_wp2
      go_ret
      refine ⟨v', rfl, ?_, ?_⟩
      · have := HE.out
        rw [hdr_zero] at this
        rw [this]
        exact hown'
      · exact hk.trans ((Kept.refl _ _ _).alloc (by omega) _ |>.trans hk' (Nat.le_refl _)) (by simp)
    · go_wp2_with (at_builtin; refine wpList_append_keep _ rfl _ _ 22 rfl base i0 Try.underlying22 hi hz0 hz1 hz2 _ _ rfl (ho.alloc _) ⟨wr.heap.size, 0, none⟩ 1 1 [c1 % 128 + 128] rfl rfl ?d1 ?d2 ?d3 ?_)
      case d1 => rw [or128 c1 hc1]; exact one_new _ _
      case d2 => simp; omega
      case d3 => simp; omega
      intro v' w1 hown' hk' _
      go_wp2
      go_roundw
      case rel =>
        have hf0 : f ≠ 0 := by
          intro h
          subst h
          simp at hs1
          omega
        obtain ⟨f, rfl⟩ : ∃ f', f = f' + 1 := ⟨f - 1, by omega⟩
        refine ⟨f, s1 % 128, s1 / 128, pre ++ [c1 % 128 + 128], ?_, ?_, ?_, by omega, by go_num, ?_, ?_, ?_⟩
        · rw [HE.out, hdr_step _ _ _ h0]; simp
        · rw [Nat.pow_succ] at hs1; exact Nat.div_lt_of_lt_mul (by omega)
        · simp; omega
        · rw [i64_and127]; go_num
        · exact hown'
        · exact hk.trans ((Kept.refl _ _ _).alloc (by omega) _ |>.trans hk' (Nat.le_refl _)) (by simp)
      case measure => simp [intOf]; omega

set_option maxHeartbeats 400000 in
theorem zzhdr_any (base : Nat) (bs : List Nat) (v : Value) (t : Int) (s : Nat) (hs2 : s ≤ 9223372036854775807) (w : World) (hown : Own w base v bs) (hbs : bs.length ≤ 1048576) (hbase : base ≤ w.heap.size) :
    Calls Try.prog 12 #[v, .int .i64 t, .int .i64 (s : Int)] w fun e w' => ∃ g cap, e = .returned (.slice (some ⟨g, 0, none⟩) (bs ++ hdr 9 (hdr0 t s).toNat (s / 16)).length cap) ∧ Own w' base (.slice (some ⟨g, 0, none⟩) (bs ++ hdr 9 (hdr0 t s).toNat (s / 16)).length cap) (bs ++ hdr 9 (hdr0 t s).toNat (s / 16)) ∧ Kept base bs.length w w' := by
  go_enter Try.func12, Try.ntmps12
  go_wp2_with (go_at_call 23; refine (hdr_any base bs v t s hs2 w hown hbs hbase).mono ?_; rintro e w' ⟨v', rfl, ho, hk⟩)
  go_ret
  obtain ⟨g, cap, hv, _⟩ := ho.shape (by have := hdr_pos 9 (hdr0 t s).toNat (s / 16); simp only [List.length_append]; omega)
  subst hv
  exact ⟨g, cap, rfl, ho, hk⟩
end Go.Proofs.Qxb6002678a
