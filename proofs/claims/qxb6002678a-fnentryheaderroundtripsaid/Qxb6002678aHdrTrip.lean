/-
  THE WALK of FnEntryHeaderRoundTrip (3) where its tests let the input by.
-/
import Derived.Test.Qxb6002678aClone
import Derived.Test.Qxb6002678aHdr
import Derived.Test.Qxb6002678aHdrRead
namespace Go.Proofs.Qxb6002678a
open Go.RowKit

set_option maxHeartbeats 1000000 in
set_option maxRecDepth 100000 in
theorem hdr_main (a0 : Option Addr) (len0 cap0 : Nat) (z0 : List Int) (t s : Nat) (ht : t ≤ 7) (hs : s ≤ 9223372036854775807) (hb : len0 ≤ 1048576) (w : World) (w0 : ByteRow w a0 len0 cap0 z0) :
    Calls Try.prog 3 #[.slice a0 len0 cap0, .int .i64 (t : Int), .int .i64 (s : Int)] w fun e w' => e = .returned (.bool true) ∧ Below w.heap.size w w' := by
  obtain ⟨bs, hlen, C⟩ := clone_any a0 len0 cap0 z0 w w0 hb
  have HL : Hid (bs.length = len0) := hlen
  clear hlen w0
  obtain ⟨h, hh0⟩ : ∃ h, h = hdr 9 (hdr0 t s).toNat (s / 16) := ⟨_, rfl⟩
  have hh : h = hdr 9 (t * 16 + s % 16) (s / 16) := by
    have e : hdr0 t s = ((t * 16 + s % 16 : Nat) : Int) := by
      unfold hdr0
      have : wrap64 ((t : Int) * 16) = (t : Int) * 16 := by unfold wrap64; omega
      rw [this]
      exact first_byte t s ht hs
    rw [hh0, e, Int.toNat_natCast]
  have HH : Hid (h = hdr 9 (t * 16 + s % 16) (s / 16)) := hh
  have HH0 : Hid (h = hdr 9 (hdr0 t s).toNat (s / 16)) := hh0
  have hl1 : 1 ≤ h.length := by rw [hh]; exact hdr_pos _ _ _
  have hl10 : h.length ≤ 10 := by rw [hh]; exact hdr_le 9 _ _
  obtain ⟨K, hK⟩ : ∃ K, K = h.length := ⟨_, rfl⟩
  rw [← hK] at hl1 hl10
  have HK : Hid (K = h.length) := hK
  clear hh hh0 hK
  go_enter Try.func3, Try.ntmps3
  go_wp2_with (go_at_call 10; refine (zz10_yes _ _ _ _ _ hb _).mono ?_; rintro e w' ⟨rfl, rfl⟩)
  refine C.mono ?_
  rintro e w1 ⟨a1, c1, rfl, ho1, hbel⟩
  go_wp2_with fail
  refine (zzhdr_any w.heap.size bs _ (t : Int) s hs w1 ho1 (by rw [HL.out]; exact hb) hbel.size).mono ?_
  rintro e w2 ⟨g, c2, rfl, ho2, hk2⟩
  rw [← HH0.out] at ho2 ⊢
  have P := pre_own w.heap.size a1 _ len0 _ c1 c2 bs h w1 w2 ho1 ho2 hk2 (by rw [HL.out]; exact hb)
  have hML : (bs ++ h).length = len0 + K := by rw [List.length_append, HL.out, HK.out]
  obtain ⟨g2, cap2, hv, _, hg, hMc, _, hcell, _⟩ := ho2.shape (by omega)
  cases hv
  rw [hML] at ho2 P hMc ⊢
  have hc2 : ¬ c2 = len0 := by omega
  have D := dech_any g len0 (c2 - len0) t s K ht hs h HH HK
  go_wp2_with fail
  refine P.mono ?_
  rintro e w3 ⟨rfl, q, rfl⟩
  clear P C
  have D := D (w2.drewN q) (fun j hj => by
    have := hcell (len0 + j) (by rw [hML]; omega)
    rw [show w2.cell? ⟨g, len0 + j, none⟩ = (w2.drewN q).cell? ⟨g, len0 + j, none⟩ from rfl] at this
    rw [this, List.getD_eq_getElem?_getD, List.getElem?_append_right (by rw [HL.out]; omega), HL.out, Nat.add_sub_cancel_left, ← List.getD_eq_getElem?_getD])
  clear hcell
  go_wp2_with fail
  refine D.mono ?_
  rintro e w4 ⟨rfl, rfl⟩
  clear D
  go_wp2
  go_ret
  exact ⟨rfl, below_drewN (hbel.trans hk2.below) q⟩
end Go.Proofs.Qxb6002678a
