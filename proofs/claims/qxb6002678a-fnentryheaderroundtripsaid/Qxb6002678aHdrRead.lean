/-
  THE WALK of decodeHeaderB1 (14).
-/
import Derived.Test.Qxb6002678aOwn
import Derived.Test.Qxb6002678aHdrPlain
namespace Go.Proofs.Qxb6002678a
open Go.RowKit

theorem getD_mid' (a r : List Nat) (b : Nat) : (a ++ b :: r).getD a.length 0 = b := by simp [List.getD]

set_option maxHeartbeats 1000000 in
theorem dech_any (g o cap t S L : Nat) (ht : t ≤ 7) (hS : S ≤ 9223372036854775807) (h : List Nat) (hh : Hid (h = hdr 9 (t * 16 + S % 16) (S / 16))) (HL : Hid (L = h.length)) (w : World)
    (hcell0 : ∀ j, j < L → w.cell? ⟨g, o + j, none⟩ = some (.int .u8 ((h.getD j 0 : Nat) : Int))) :
    Calls Try.prog 14 #[.slice (some ⟨g, o, none⟩) L cap] w fun e w' => e = .returned (.tuple #[.int .i64 (t : Int), .int .u64 (S : Int), .int .i64 (L : Int), .bool true]) ∧ w' = w := by
  have HCELL : Hid (∀ j, j < L → w.cell? ⟨g, o + j, none⟩ = some (.int .u8 ((h.getD j 0 : Nat) : Int))) := hcell0
  clear hcell0
  have hL1 : 1 ≤ L := by rw [HL.out, hh.out]; exact hdr_pos _ _ _
  have hL10 : L ≤ 10 := by rw [HL.out, hh.out]; exact hdr_le 9 _ _
  obtain ⟨r0, hr0⟩ := hdr_head 9 (t * 16 + S % 16) (S / 16) (by omega)
  obtain ⟨b0, hb0⟩ : ∃ b0, b0 = hb (t * 16 + S % 16) (S / 16) := ⟨_, rfl⟩
  have hb256 : b0 < 256 := by rw [hb0]; exact hb_lt _ _ (by omega)
  have hc0 : w.cell? ⟨g, o, none⟩ = some (.int .u8 (b0 : Int)) := by
    have := HCELL.out 0 (by omega)
    rw [hh.out, hr0, ← hb0] at this
    exact this
  have HB0 : Hid (b0 = hb (t * 16 + S % 16) (S / 16)) := hb0
  have hty : (b0 : Int) / 16 % 8 = (t : Int) := by rw [hb0]; unfold hb; split <;> omega
  have hsz : (b0 : Int) % 16 = ((S % 16 : Nat) : Int) := by rw [hb0]; unfold hb; split <;> omega
  have HTY : Hid ((b0 : Int) / 16 % 8 = (t : Int)) := hty
  have HSZ : Hid ((b0 : Int) % 16 = ((S % 16 : Nat) : Int)) := hsz
  have hne : ((L : Int) == 0) = false := by rw [beq_eq_false_iff_ne]; omega
  clear hr0 hb0 hty hsz r0
  go_enter Try.func14, Try.ntmps14
  go_wp2
  go_loop [6, 8, 9, 10] (fun c sz sh i => ∃ (f c1 s1 p acc b : Nat) (pre : List Nat), h = pre ++ hdr f c1 s1 ∧ pre.length = p ∧ p + f = 9 ∧ c1 < 128 ∧ s1 < 128 ^ f ∧ acc + s1 * 2 ^ (4 + 7 * p) = S ∧ acc < 2 ^ (4 + 7 * p) ∧ b = hb c1 s1 ∧
      c = .int .u8 (b : Int) ∧ sz = .int .u64 (acc : Int) ∧ sh = .int .u64 ((4 + 7 * p : Nat) : Int) ∧ i = .int .i64 ((p + 1 : Nat) : Int)) (fun _ _ _ i => L - (intOf i).toNat)
  case atStart =>
    exact ⟨9, t * 16 + S % 16, S / 16, 0, S % 16, b0, [], hh.out, rfl, rfl, by omega, by omega, by omega, by omega, HB0.out, rfl, by rw [HSZ.out], rfl, rfl⟩
  case round =>
    obtain ⟨f, c1, s1, p, acc, b, pre, he, hp, hpf, hc1, hs1, hacc, hal, hbb, rfl, rfl, rfl, rfl⟩ := hrel
    have HE : Hid (h = pre ++ hdr f c1 s1) := he
    have HP : Hid (pre.length = p) := hp
    have HPF : Hid (p + f = 9) := hpf
    have HAC : Hid (acc + s1 * 2 ^ (4 + 7 * p) = S ∧ acc < 2 ^ (4 + 7 * p)) := ⟨hacc, hal⟩
    have HB : Hid (b = hb c1 s1) := hbb
    have HS1 : Hid (s1 < 128 ^ f) := hs1
    have hp9 : p ≤ 9 := by omega
    by_cases h0 : s1 = 0
    · have htest : (bits .and .u8 (b : Int) 128 != 0) = false := by rw [hbb, h0]; exact mark_no c1 hc1
      have hLp : L = p + 1 := by rw [HL.out, he, h0, hdr_zero, ← hp]; simp
      have hSa : acc = S := by rw [h0] at hacc; omega
      have HF : Hid (L = p + 1 ∧ acc = S) := ⟨hLp, hSa⟩
      clear he hp hpf hacc hal hbb hs1 h0 hLp hSa
      go_wp2
      refine bodyPost_ret (v := .tuple #[.int .i64 ((b0 : Int) / 16 % 8), .int .u64 (acc : Int), .int .i64 ((p + 1 : Nat) : Int), .bool true]) (by simp [results, Try.results14, go_sem]) rfl ⟨?_, rfl⟩
      rw [HTY.out, HF.out.2, ← HF.out.1]
    · have htest : (bits .and .u8 (b : Int) 128 != 0) = true := by rw [hbb]; exact mark_yes c1 s1 hc1 h0
      have hf0 : f ≠ 0 := by
        intro hf
        subst hf
        simp at hs1
        omega
      obtain ⟨f, rfl⟩ : ∃ f', f = f' + 1 := ⟨f - 1, by omega⟩
      have hs2 : s1 / 128 < 128 ^ f := by rw [Nat.pow_succ] at hs1; exact Nat.div_lt_of_lt_mul (by omega)
      have he2 : h = (pre ++ [c1 % 128 + 128]) ++ hdr f (s1 % 128) (s1 / 128) := by rw [he, hdr_step _ _ _ h0]; simp
      obtain ⟨r, hr⟩ := hdr_head f (s1 % 128) (s1 / 128) hs2
      obtain ⟨b2, hb2⟩ : ∃ b2, b2 = hb (s1 % 128) (s1 / 128) := ⟨_, rfl⟩
      have hpl : p + 1 < L := by
        rw [HL.out, he2, hr]
        simp; omega
      have hcy : w.cell? ⟨g, o + (p + 1), none⟩ = some (.int .u8 (b2 : Int)) := by
        rw [HCELL.out (p + 1) hpl, he2, hr, ← hb2]
        have e : p + 1 = (pre ++ [c1 % 128 + 128]).length := by simp; omega
        rw [e, getD_mid']
      obtain ⟨d, hd⟩ : ∃ d, d = s1 % 128 := ⟨_, rfl⟩
      have hlow : bits .and .u8 (b2 : Int) 127 = (d : Int) := by rw [hb2, hd]; exact low7 _ _ (by omega)
      have hb2l : b2 < 256 := by rw [hb2]; exact hb_lt _ _ (by omega)
      have hd128 : d < 128 := by omega
      have hst := acc_step acc s1 (4 + 7 * p)
      rw [← hd] at hst
      have hor := or_sh acc d (4 + 7 * p) hal (by omega)
      have hwr : IntKind.u64.wrap ((d : Int) * 2 ^ (4 + 7 * p)) = ((d * 2 ^ (4 + 7 * p) : Nat) : Int) := by
        have e : (d : Int) * 2 ^ (4 + 7 * p) = ((d * 2 ^ (4 + 7 * p) : Nat) : Int) := by simp
        rw [e, IntKind.wrap_u64]
        exact Int.emod_eq_of_lt (by omega) (by omega)
      have hal2 : acc + d * 2 ^ (4 + 7 * p) < 2 ^ (4 + 7 * (p + 1)) := by
        have e : 2 ^ (4 + 7 * (p + 1)) = 128 * 2 ^ (4 + 7 * p) := by rw [show 4 + 7 * (p + 1) = 7 + (4 + 7 * p) by omega, Nat.pow_add]
        have : d * 2 ^ (4 + 7 * p) ≤ 127 * 2 ^ (4 + 7 * p) := Nat.mul_le_mul_right _ (by omega)
        omega
      have HN : Hid (bits .or .u64 (acc : Int) (IntKind.u64.wrap ((d : Int) * 2 ^ (4 + 7 * p))) = ((acc + d * 2 ^ (4 + 7 * p) : Nat) : Int) ∧ acc + d * 2 ^ (4 + 7 * p) + s1 / 128 * 2 ^ (4 + 7 * (p + 1)) = S ∧ acc + d * 2 ^ (4 + 7 * p) < 2 ^ (4 + 7 * (p + 1)) ∧ h = (pre ++ [c1 % 128 + 128]) ++ hdr f (s1 % 128) (s1 / 128) ∧ d = s1 % 128 ∧ b2 = hb (s1 % 128) (s1 / 128)) :=
        ⟨by rw [hwr, hor], by rw [show 4 + 7 * (p + 1) = 4 + 7 * p + 7 by omega, hst]; exact hacc, hal2, he2, hd, hb2⟩
      clear he hp hpf hacc hal hbb hs1 he2 hr hb2 hd hst hor hwr hal2
      have hp8 : p ≤ 8 := by have := HPF.out; omega
      go_wp2
      go_round
      case rel =>
        have N := HN.out
        have hp := HP.out
        have hpf := HPF.out
        exact ⟨f, s1 % 128, s1 / 128, p + 1, acc + d * 2 ^ (4 + 7 * p), b2, pre ++ [c1 % 128 + 128], N.2.2.2.1, by simp; omega, by omega, by omega, hs2, N.2.1, N.2.2.1, N.2.2.2.2.2, rfl, by rw [N.1], by go_num, by go_num⟩
      case measure => simp [intOf]; omega
end Go.Proofs.Qxb6002678a
