/-
  THE WALKS of decodeDistanceB1 (17), and of FnDistanceRoundTrip (6) where its tests let the input by.
-/
import Derived.Test.Qxb6002678aClone
import Derived.Test.Qxb6002678aDist
import Derived.Test.Qxb6002678aDistPlain
namespace Go.Proofs.Qxb6002678a
open Go.RowKit

set_option maxHeartbeats 1000000 in
theorem decd_any (g o cap d L : Nat) (hd : d < 18446744073709551616) (h : List Nat) (hh : Hid (h = dist d)) (HL : Hid (L = h.length)) (w : World)
    (hcell0 : ∀ j, j < L → w.cell? ⟨g, o + j, none⟩ = some (.int .u8 ((h.getD j 0 : Nat) : Int))) :
    Calls Try.prog 17 #[.slice (some ⟨g, o, none⟩) L cap] w fun e w' => e = .returned (.tuple #[.int .u64 (d : Int), .int .i64 (L : Int), .bool true]) ∧ w' = w := by
  have HCELL : Hid (∀ j, j < L → w.cell? ⟨g, o + j, none⟩ = some (.int .u8 ((h.getD j 0 : Nat) : Int))) := hcell0
  clear hcell0
  have hL1 : 1 ≤ L := by rw [HL.out, hh.out]; exact (dist_len d).1
  have hL10 : L ≤ 10 := by rw [HL.out, hh.out]; exact (dist_len d).2
  have HV : Hid (∀ p, 1 ≤ p → p ≤ L → vl h p < 18446744073709551616) := by
    intro p h1 h2
    have e := dist_val d hd
    rw [← hh.out, ← HL.out] at e
    have := vl_le h p h1 (L - p)
    rw [show p + (L - p) = L by omega, e] at this
    omega
  have HBY : Hid (∀ k, k < L → h.getD k 0 < 256) := by
    intro k hk
    rw [hh.out]
    by_cases e : k + 1 = L
    · have := dist_last d k (by rw [e, HL.out, hh.out]); omega
    · exact (dist_mark d k (by rw [← hh.out, ← HL.out]; omega)).2
  obtain ⟨b0, hb0⟩ : ∃ b0, b0 = h.getD 0 0 := ⟨_, rfl⟩
  have hb256 : b0 < 256 := by rw [hb0]; exact HBY.out 0 (by omega)
  have hc0 : w.cell? ⟨g, o, none⟩ = some (.int .u8 (b0 : Int)) := by
    have := HCELL.out 0 (by omega)
    rw [← hb0] at this
    exact this
  have HB0 : Hid (b0 = h.getD 0 0) := hb0
  have hne : ((L : Int) == 0) = false := by rw [beq_eq_false_iff_ne]; omega
  obtain ⟨y0, hy0⟩ : ∃ y0, y0 = vl h 1 := ⟨_, rfl⟩
  have hlow0 : bits .and .u8 (b0 : Int) 127 = (y0 : Int) := by rw [dlow b0 hb256, hy0, vl_one, hb0]
  have hy128 : y0 < 128 := by rw [hy0, vl_one]; omega
  have HY0 : Hid (y0 = vl h 1) := hy0
  clear hb0 hy0
  go_enter Try.func17, Try.ntmps17
  go_wp2
  go_loop [5, 6, 7] (fun c v i => ∃ (k b x : Nat), k + 1 ≤ L ∧ b = h.getD k 0 ∧ x = vl h (k + 1) ∧ c = .int .u8 (b : Int) ∧ v = .int .u64 (x : Int) ∧ i = .int .i64 ((k + 1 : Nat) : Int)) (fun _ _ i => L - (intOf i).toNat)
  case atStart =>
    exact ⟨0, b0, y0, by omega, HB0.out, HY0.out, rfl, rfl, rfl⟩
  case round =>
    obtain ⟨k, b, x, hk, hbk, hx, rfl, rfl, rfl⟩ := hrel
    have hbl : b < 256 := by rw [hbk]; exact HBY.out k (by omega)
    have hxl : x < 18446744073709551616 := by rw [hx]; exact HV.out (k + 1) (by omega) hk
    by_cases hend : k + 1 = L
    · have htest : (bits .and .u8 (b : Int) 128 != 0) = false := by
        have hl : b < 128 := by rw [hbk, hh.out]; exact dist_last d k (by rw [hend, HL.out, hh.out])
        rw [dmark b hbl, show b / 128 % 2 = 0 by omega]; rfl
      have hxd : x = d := by rw [hx, hend, HL.out, hh.out]; exact dist_val d hd
      have HF : Hid (x = d ∧ k + 1 = L) := ⟨hxd, hend⟩
      clear hbk hx hxd hend
      go_wp2
      refine bodyPost_ret (v := .tuple #[.int .u64 (x : Int), .int .i64 ((k + 1 : Nat) : Int), .bool true]) (by simp [results, Try.results17, go_sem]) rfl ⟨?_, rfl⟩
      rw [HF.out.1, HF.out.2]
    · have htest : (bits .and .u8 (b : Int) 128 != 0) = true := by
        have hl : 128 ≤ b := by rw [hbk, hh.out]; exact (dist_mark d k (by rw [← hh.out, ← HL.out]; omega)).1
        rw [dmark b hbl, show b / 128 % 2 = 1 by omega]; rfl
      have hkl : k + 1 < L := by omega
      obtain ⟨b2, hb2⟩ : ∃ b2, b2 = h.getD (k + 1) 0 := ⟨_, rfl⟩
      have hcy := HCELL.out (k + 1) hkl
      rw [← hb2] at hcy
      have hb2l : b2 < 256 := by rw [hb2]; exact HBY.out (k + 1) hkl
      obtain ⟨y, hy⟩ : ∃ y, y = b2 % 128 := ⟨_, rfl⟩
      have hlow : bits .and .u8 (b2 : Int) 127 = (y : Int) := by rw [hy]; exact dlow b2 hb2l
      have hyl : y < 128 := by omega
      have hst := vl_step h (k + 1) (by omega)
      rw [← hx, ← hb2, ← hy] at hst
      have hbd := HV.out (k + 1 + 1) (by omega) (by omega)
      rw [hst] at hbd
      have hor := or7 x y hyl hbd
      have HN : Hid (bits .or .u64 (((x + 1) * 128 : Nat) : Int) (y : Int) = (((x + 1) * 128 + y : Nat) : Int) ∧ (x + 1) * 128 + y = vl h (k + 1 + 1) ∧ b2 = h.getD (k + 1) 0) := ⟨hor, hst.symm, hb2⟩
      clear hbk hx hend hb2 hy hst hor
      go_wp2
      go_round
      case rel =>
        have N := HN.out
        refine ⟨k + 1, b2, (x + 1) * 128 + y, by omega, N.2.2, N.2.1, rfl, ?_, by go_num⟩
        rw [← N.1]
        first | rfl | simp
      case measure => simp [intOf]; omega

set_option maxHeartbeats 1000000 in
set_option maxRecDepth 100000 in
theorem dist_main (a0 : Option Addr) (len0 cap0 : Nat) (z0 : List Int) (d : Nat) (hd : d < 18446744073709551616) (hb : len0 ≤ 1048576) (w : World) (w0 : ByteRow w a0 len0 cap0 z0) :
    Calls Try.prog 6 #[.slice a0 len0 cap0, .int .u64 (d : Int)] w fun e w' => e = .returned (.bool true) ∧ Below w.heap.size w w' := by
  obtain ⟨bs, hlen, C⟩ := clone_any a0 len0 cap0 z0 w w0 hb
  have HL : Hid (bs.length = len0) := hlen
  clear hlen w0
  obtain ⟨h, hh⟩ : ∃ h, h = dist d := ⟨_, rfl⟩
  have HH : Hid (h = dist d) := hh
  have hl1 : 1 ≤ h.length := by rw [hh]; exact (dist_len d).1
  have hl10 : h.length ≤ 10 := by rw [hh]; exact (dist_len d).2
  obtain ⟨K, hK⟩ : ∃ K, K = h.length := ⟨_, rfl⟩
  rw [← hK] at hl1 hl10
  have HK : Hid (K = h.length) := hK
  clear hh hK
  go_enter Try.func6, Try.ntmps6
  go_wp2_with (go_at_call 15; refine (zz15_yes _ _ _ _ hb _).mono ?_; rintro e w' ⟨rfl, rfl⟩)
  refine C.mono ?_
  rintro e w1 ⟨a1, c1, rfl, ho1, hbel⟩
  go_wp2_with fail
  refine (zzdist_any w.heap.size bs _ d hd w1 ho1 (by rw [HL.out]; exact hb) hbel.size).mono ?_
  rintro e w2 ⟨v2, rfl, ho2, hk2⟩
  rw [← HH.out] at ho2
  have hML : (bs ++ h).length = len0 + K := by rw [List.length_append, HL.out, HK.out]
  obtain ⟨g, c2, hv, _, hg, hMc, _, hcell, _⟩ := ho2.shape (by omega)
  rw [hv] at ho2 ⊢
  have P := pre_own w.heap.size a1 _ len0 _ c1 c2 bs h w1 w2 ho1 ho2 hk2 (by rw [HL.out]; exact hb)
  rw [hML] at ho2 P hMc ⊢
  have hc2 : ¬ c2 = len0 := by omega
  clear hv
  have D := decd_any g len0 (c2 - len0) d K hd h HH HK
  go_wp2_with fail
  refine P.mono ?_
  rintro e w3 ⟨rfl, q, rfl⟩
  clear P C
  have D := D (w2.drewN q) (fun j hj => by
    have := hcell (len0 + j) (by rw [hML]; omega)
    rw [show w2.cell? ⟨g, len0 + j, none⟩ = (w2.drewN q).cell? ⟨g, len0 + j, none⟩ from rfl] at this
    rw [this, List.getD_eq_getElem?_getD, List.getElem?_append_right (by rw [HL.out]; omega), HL.out, Nat.add_sub_cancel_left, ← List.getD_eq_getElem?_getD])
  clear hcell
  go_wp2_with fail
  refine D.mono ?_
  rintro e w4 ⟨rfl, rfl⟩
  clear D
  go_wp2
  go_ret
  exact ⟨rfl, below_drewN (hbel.trans hk2.below) q⟩
end Go.Proofs.Qxb6002678a
