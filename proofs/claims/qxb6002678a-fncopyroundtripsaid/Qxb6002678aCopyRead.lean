/-
  THE WALK of FnCopyRoundTrip (8) where its tests let the input by: clone, append, prefix, and the reader's loops. The cases (one a byte) were laid out by a small script of the prover's.
-/
import Derived.Test.Qxb6002678aClone
import Derived.Test.Qxb6002678aCopy
namespace Go.Proofs.Qxb6002678a
open Go.RowKit

theorem ret_bool {b : Bool} (h : b = true) : Ending.returned (.bool b) = .returned (.bool true) := by rw [h]
theorem cp_le (f : Nat) : ∀ x n, (cp f x n).length ≤ 8 * f := by
  induction f with
  | zero => intro x n; simp [cp]
  | succ f ih =>
    intro x n
    by_cases h : n = 0
    · subst h; rw [cp_zero]; simp
    · rw [cp_step f x n h]
      have := ins_len x (min n 16777215)
      have := ih (x + min n 16777215) (n - min n 16777215)
      simp only [List.length_append]; omega

set_option maxHeartbeats 2000000 in
set_option maxRecDepth 100000 in
theorem read_main (a0 : Option Addr) (len0 cap0 : Nat) (z0 : List Int) (x0 n0 : Nat) (hx : x0 + n0 ≤ 4294967296) (hb : len0 ≤ 1048576) (w : World) (w0 : ByteRow w a0 len0 cap0 z0) :
    Calls Try.prog 8 #[.slice a0 len0 cap0, .int .i64 (x0 : Int), .int .i64 (n0 : Int)] w fun e w' => e = .returned (.bool true) ∧ Below w.heap.size w w' := by
  obtain ⟨bs, hlen, C⟩ := clone_any a0 len0 cap0 z0 w w0 hb
  have HL : Hid (bs.length = len0) := hlen
  clear hlen
  go_enter Try.func8, Try.ntmps8
  go_wp2_with (go_at_call 19; refine (zz19_yes _ _ _ _ _ hb _).mono ?_; rintro e w' ⟨rfl, rfl⟩)
  refine C.mono ?_
  rintro e w1 ⟨a1, c1, rfl, ho1, hbel⟩
  go_wp2_with fail
  refine (zzcopy_any w.heap.size bs _ x0 n0 hx w1 ho1 (by rw [HL.out]; exact hb) hbel.size).mono ?_
  rintro e w2 ⟨v2, rfl, ho2, hk2⟩
  obtain ⟨T, hT⟩ : ∃ T, T = bs ++ cp 257 x0 n0 := ⟨_, rfl⟩
  obtain ⟨a2, c2, hv2⟩ := ho2.form
  rw [hv2] at ho2 ⊢
  have P := pre_own w.heap.size a1 a2 len0 _ c1 c2 bs (cp 257 x0 n0) w1 w2 ho1 ho2 hk2 (by rw [HL.out]; exact hb)
  rw [← hT] at ho2 P ⊢
  obtain ⟨M, hM⟩ : ∃ M, M = T.length := ⟨_, rfl⟩
  rw [← hM] at ho2 P ⊢
  have HT : Hid (T = bs ++ cp 257 x0 n0) := hT
  have HM : Hid (M = T.length) := hM
  clear hT hM hv2
  go_wp2_with fail
  refine P.mono ?_
  rintro e w3 ⟨rfl, q, rfl⟩
  clear P C
  have hM20 : M ≤ 140737488355327 := by
    rw [HM.out, HT.out]
    have := cp_le 257 x0 n0
    have := HL.out
    simp only [List.length_append]; omega
  go_wp2
  go_loop [8, 9, 10, 11] (fun pos nx tot cnt => ∃ (f x n c : Nat) (pr : List Nat), T = pr ++ cp f x n ∧ n ≤ f * 16777215 ∧ x + n = x0 + n0 ∧ n ≤ n0 ∧ pos = .int .i64 (pr.length : Int) ∧ nx = .int .u64 (x : Int) ∧ tot = .int .u64 ((n0 - n : Nat) : Int) ∧ cnt = .int .i64 (c : Int) ∧ c + (n + 16777214) / 16777215 = (n0 + 16777214) / 16777215) (fun pos _ _ _ => M - (intOf pos).toNat)
  case atStart => exact ⟨257, x0, n0, 0, bs, HT.out, by omega, rfl, Nat.le_refl _, by rw [HL.out], rfl, by simp, rfl, by omega⟩
  case round =>
    obtain ⟨f, x, n, c, pr, he, hn, hxn, hnn, rfl, rfl, rfl, rfl, hcnt⟩ := hrel
    have HE : Hid (T = pr ++ cp f x n) := he
    have HX : Hid (x + n = x0 + n0) := hxn
    have HCN : Hid (c + (n + 16777214) / 16777215 = (n0 + 16777214) / 16777215) := hcnt
    have hx32 : x + n ≤ 4294967296 := by omega
    have hc257 : c ≤ 300 := by omega
    clear he hxn hcnt
    by_cases h0 : n = 0
    · subst h0
      have hpm : pr.length = M := by rw [HM.out, HE.out, cp_zero]; simp
      obtain ⟨p, hp⟩ : ∃ p, p = pr.length := ⟨_, rfl⟩
      rw [← hp]
      have hpp : M ≤ p := by omega
      clear hp hpm
      go_wp2
      go_ret
      refine ⟨?_, below_drewN (hbel.trans hk2.below) q⟩
      have hfin := HCN.out
      refine ret_bool ?_
      exact beq_iff_eq.mpr (by omega)
    · obtain ⟨k, hk0⟩ : ∃ k, k = min n 16777215 := ⟨_, rfl⟩
      have hk1 : 1 ≤ k := by omega
      have hk2' : k ≤ 16777215 := by omega
      have hk3 : k ≤ n := by omega
      have hf0 : f ≠ 0 := by
        intro h
        subst h
        simp at hn
        omega
      obtain ⟨f, rfl⟩ : ∃ f', f = f' + 1 := ⟨f - 1, by omega⟩
      obtain ⟨rest, hrest⟩ : ∃ rest, rest = cp f (x + k) (n - k) := ⟨_, rfl⟩
      have HE : Hid (T = pr ++ (ins x k ++ rest)) := by
        show T = _
        rw [HE.out, cp_step f x n h0, ← hk0, hrest]
      have HK : Hid (k = min n 16777215 ∧ rest = cp f (x + k) (n - k)) := ⟨hk0, hrest⟩
      obtain ⟨o, hoo⟩ : ∃ o, o = 128 + fg x 4 + 16 * fg k 3 := ⟨_, rfl⟩
      have hop := ins_op pr rest x k
      rw [← HE.out, ← hoo] at hop
      have HO : Hid (o = 128 + fg x 4 + 16 * fg k 3) := hoo
      have ho256 : o < 256 := by rw [hoo]; exact (op_lt x k).2
      have ho128 : 128 ≤ o := by rw [hoo]; exact (op_lt x k).1
      have htop : (bits .and .u8 (o : Int) 128 == 0) = false := by
        have e := and_bit o 7 ho256 (by omega)
        rw [show ((128 : Int)) = ((2 ^ 7 : Nat) : Int) from rfl, e]
        have : o / 2 ^ 7 % 2 = 1 := by omega
        rw [this]; rfl
      have hpM : pr.length < M := by rw [HM.out]; exact hop.2
      obtain ⟨g, cg, hv, _, hg, _, _, hcell0, _⟩ := ho2.shape (by rw [← HM.out]; omega)
      have hcell : ∀ j, j < M → (w2.drewN q).cell? ⟨g, j, none⟩ = some (.int .u8 ((T.getD j 0 : Nat) : Int)) := fun j hj => hcell0 j (by rw [← HM.out]; exact hj)
      have hv' : a2 = some ⟨g, 0, none⟩ := by cases hv; rfl
      subst hv'
      have hc0 := hcell pr.length hpM
      rw [hop.1] at hc0
      have hbl4 := bt_le x 4
      have hbl3 := bt_le k 3
      have HCELL := hide hcell
      clear hk0 hrest hoo hop hv hcell0 hcell
      go_wp2
      go_loop [8, 13, 15] (fun pos off ii => ∃ (j p ac : Nat), j ≤ 4 ∧ ii = .int .i64 (j : Int) ∧ off = .int .u64 (ac : Int) ∧ pos = .int .i64 (p : Int) ∧ p = pr.length + 1 + (bt x j).length ∧ ac = x % 256 ^ j) (fun _ _ ii => 4 - (intOf ii).toNat)
      case atStart => exact ⟨0, pr.length + 1, 0, by omega, rfl, rfl, by go_num, rfl, by simp [Nat.mod_one]⟩
      case round =>
        obtain ⟨j, p, ac, hj, rfl, rfl, rfl, hp, hac⟩ := hrel
        have HP : Hid (p = pr.length + 1 + (bt x j).length) := hp
        have HA : Hid (ac = x % 256 ^ j) := hac
        have hpb : p ≤ pr.length + 8 := by rw [hp]; have := bt_le x 4; have := bt_le x j; have := bt_le k j; omega
        have hlp : (pr.length : Int) < (p : Int) := by rw [hp]; omega
        clear hp hac
        by_cases hend : j = 4
        · subst hend
          have hax : x = ac := by rw [HA.out]; exact (Nat.mod_eq_of_lt (by omega)).symm
          subst hax
          clear HA
          go_wp2
          go_loop [8, 14, 16] (fun pos sz ii => ∃ (j p ac : Nat), j ≤ 3 ∧ ii = .int .i64 (j : Int) ∧ sz = .int .u64 (ac : Int) ∧ pos = .int .i64 (p : Int) ∧ p = pr.length + 1 + (bt x 4).length + (bt k j).length ∧ ac = k % 256 ^ j) (fun _ _ ii => 3 - (intOf ii).toNat)
          case atStart => exact ⟨0, p, 0, by omega, rfl, rfl, rfl, by rw [HP.out]; rfl, by simp [Nat.mod_one]⟩
          case round =>
              obtain ⟨j, p, ac, hj, rfl, rfl, rfl, hp, hac⟩ := hrel
              have HP : Hid (p = pr.length + 1 + (bt x 4).length + (bt k j).length) := hp
              have HA : Hid (ac = k % 256 ^ j) := hac
              have hpb : p ≤ pr.length + 8 := by rw [hp]; have := bt_le x 4; have := bt_le x j; have := bt_le k j; omega
              have hlp : (pr.length : Int) < (p : Int) := by rw [hp]; omega
              clear hp hac
              by_cases hend : j = 3
              · subst hend
                have hak : k = ac := by rw [HA.out]; exact (Nat.mod_eq_of_lt (by omega)).symm
                subst hak
                clear HA
                have t1 : ((k : Int) == 0) = false := by rw [beq_eq_false_iff_ne]; omega
                have t2 : decide ((16777215 : Int) < (k : Int)) = false := decide_eq_false (by omega)
                have t3 : ((x : Int) != (x : Int)) = false := by simp
                go_wp2
                go_round
                case rel =>
                  have hfin := HCN.out
                  have hxx := HX.out
                  have hkk := HK.out
                  have hend' : p = (pr ++ ins x k).length := by rw [HP.out, ins_end]
                  have hT2 : T = (pr ++ ins x k) ++ cp f (x + k) (n - k) := by rw [HE.out, ← hkk.2]; simp
                  have hk0 := hkk.1
                  refine ⟨f, x + k, n - k, c + 1, pr ++ ins x k, hT2, by omega, by omega, by omega, ?_, by go_num, by go_num, by go_num, by omega⟩
                  rw [hend']
                case measure =>
                  simp [intOf]
                  omega
              · by_cases hz : byt k j = 0
                · rcases (show j = 0 ∨ j = 1 ∨ j = 2 from by omega) with rfl | rfl | rfl
                  · have htest : (bits .and .u8 (o : Int) 16 != 0) = false := by
                      have e := and_bit o 4 ho256 (by omega)
                      rw [HO.out, op_sz x k 0 (by omega), if_pos hz, ← HO.out] at e
                      rw [show ((16 : Int)) = ((2 ^ 4 : Nat) : Int) from rfl, e]; rfl
                    have hm := mod_step k 0
                    have hbm := bt_miss hz
                    rw [hz] at hm
                    have HS : Hid (p = pr.length + 1 + (bt x 4).length + (bt k (0 + 1)).length ∧ ac = k % 256 ^ (0 + 1)) := ⟨by rw [HP.out, hbm], by rw [HA.out, hm]; simp⟩
                    clear hm hbm hz
                    go_wp2
                    go_round
                    case rel => exact ⟨0 + 1, p, ac, by omega, rfl, rfl, rfl, HS.out.1, HS.out.2⟩
                    case measure => simp [intOf]
                  · have htest : (bits .and .u8 (o : Int) 32 != 0) = false := by
                      have e := and_bit o 5 ho256 (by omega)
                      rw [HO.out, op_sz x k 1 (by omega), if_pos hz, ← HO.out] at e
                      rw [show ((32 : Int)) = ((2 ^ 5 : Nat) : Int) from rfl, e]; rfl
                    have hm := mod_step k 1
                    have hbm := bt_miss hz
                    rw [hz] at hm
                    have HS : Hid (p = pr.length + 1 + (bt x 4).length + (bt k (1 + 1)).length ∧ ac = k % 256 ^ (1 + 1)) := ⟨by rw [HP.out, hbm], by rw [HA.out, hm]; simp⟩
                    clear hm hbm hz
                    go_wp2
                    go_round
                    case rel => exact ⟨1 + 1, p, ac, by omega, rfl, rfl, rfl, HS.out.1, HS.out.2⟩
                    case measure => simp [intOf]
                  · have htest : (bits .and .u8 (o : Int) 64 != 0) = false := by
                      have e := and_bit o 6 ho256 (by omega)
                      rw [HO.out, op_sz x k 2 (by omega), if_pos hz, ← HO.out] at e
                      rw [show ((64 : Int)) = ((2 ^ 6 : Nat) : Int) from rfl, e]; rfl
                    have hm := mod_step k 2
                    have hbm := bt_miss hz
                    rw [hz] at hm
                    have HS : Hid (p = pr.length + 1 + (bt x 4).length + (bt k (2 + 1)).length ∧ ac = k % 256 ^ (2 + 1)) := ⟨by rw [HP.out, hbm], by rw [HA.out, hm]; simp⟩
                    clear hm hbm hz
                    go_wp2
                    go_round
                    case rel => exact ⟨2 + 1, p, ac, by omega, rfl, rfl, rfl, HS.out.1, HS.out.2⟩
                    case measure => simp [intOf]
                · rcases (show j = 0 ∨ j = 1 ∨ j = 2 from by omega) with rfl | rfl | rfl
                  · have htest : (bits .and .u8 (o : Int) 16 != 0) = true := by
                      have e := and_bit o 4 ho256 (by omega)
                      rw [HO.out, op_sz x k 0 (by omega), if_neg hz, ← HO.out] at e
                      rw [show ((16 : Int)) = ((2 ^ 4 : Nat) : Int) from rfl, e]; rfl
                    have hcc := ins_sz pr rest x k 0 hz (by omega)
                    rw [← HP.out, ← HE.out] at hcc
                    obtain ⟨y, hy⟩ : ∃ y, y = byt k 0 := ⟨_, rfl⟩
                    rw [← hy] at hcc
                    have hpM : p < M := by rw [HM.out]; exact hcc.2
                    have hcy := HCELL.out p hpM
                    rw [hcc.1] at hcy
                    have hy256 : y < 256 := by rw [hy]; exact byt_lt _ _
                    have hac2 : ac < 1 := by rw [HA.out]; exact Nat.mod_lt _ (by decide)
                    have hor : bits .or .u64 (ac : Int) (y : Int) = ((ac + y : Nat) : Int) := or_join0 ac y (by omega) (by omega)
                    have hm := mod_step k 0
                    have hbm := bt_hit hz
                    have HS : Hid (p + 1 = pr.length + 1 + (bt x 4).length + (bt k (0 + 1)).length ∧ ac + y = k % 256 ^ (0 + 1)) := ⟨by rw [HP.out, hbm, List.length_append]; simp; omega, by rw [HA.out, hm, hy]; simp⟩
                    have HOR := hide hor
                    clear hm hbm hz hor hcc hy
                    go_wp2
                    go_round
                    case rel => exact ⟨0 + 1, p + 1, ac + y, by omega, rfl, by rw [← HOR.out], by go_num, HS.out.1, HS.out.2⟩
                    case measure => simp [intOf]
                  · have htest : (bits .and .u8 (o : Int) 32 != 0) = true := by
                      have e := and_bit o 5 ho256 (by omega)
                      rw [HO.out, op_sz x k 1 (by omega), if_neg hz, ← HO.out] at e
                      rw [show ((32 : Int)) = ((2 ^ 5 : Nat) : Int) from rfl, e]; rfl
                    have hcc := ins_sz pr rest x k 1 hz (by omega)
                    rw [← HP.out, ← HE.out] at hcc
                    obtain ⟨y, hy⟩ : ∃ y, y = byt k 1 := ⟨_, rfl⟩
                    rw [← hy] at hcc
                    have hpM : p < M := by rw [HM.out]; exact hcc.2
                    have hcy := HCELL.out p hpM
                    rw [hcc.1] at hcy
                    have hy256 : y < 256 := by rw [hy]; exact byt_lt _ _
                    have hac2 : ac < 256 := by rw [HA.out]; exact Nat.mod_lt _ (by decide)
                    have hor : bits .or .u64 (ac : Int) ((y : Int) * 256) = ((ac + y * 256 : Nat) : Int) := or_join ac y 8 (by omega) hac2 (by omega)
                    have hm := mod_step k 1
                    have hbm := bt_hit hz
                    have HS : Hid (p + 1 = pr.length + 1 + (bt x 4).length + (bt k (1 + 1)).length ∧ ac + y * 256 = k % 256 ^ (1 + 1)) := ⟨by rw [HP.out, hbm, List.length_append]; simp; omega, by rw [HA.out, hm, hy]⟩
                    have HOR := hide hor
                    clear hm hbm hz hor hcc hy
                    go_wp2
                    go_round
                    case rel => exact ⟨1 + 1, p + 1, ac + y * 256, by omega, rfl, by rw [← HOR.out], by go_num, HS.out.1, HS.out.2⟩
                    case measure => simp [intOf]
                  · have htest : (bits .and .u8 (o : Int) 64 != 0) = true := by
                      have e := and_bit o 6 ho256 (by omega)
                      rw [HO.out, op_sz x k 2 (by omega), if_neg hz, ← HO.out] at e
                      rw [show ((64 : Int)) = ((2 ^ 6 : Nat) : Int) from rfl, e]; rfl
                    have hcc := ins_sz pr rest x k 2 hz (by omega)
                    rw [← HP.out, ← HE.out] at hcc
                    obtain ⟨y, hy⟩ : ∃ y, y = byt k 2 := ⟨_, rfl⟩
                    rw [← hy] at hcc
                    have hpM : p < M := by rw [HM.out]; exact hcc.2
                    have hcy := HCELL.out p hpM
                    rw [hcc.1] at hcy
                    have hy256 : y < 256 := by rw [hy]; exact byt_lt _ _
                    have hac2 : ac < 65536 := by rw [HA.out]; exact Nat.mod_lt _ (by decide)
                    have hor : bits .or .u64 (ac : Int) ((y : Int) * 65536) = ((ac + y * 65536 : Nat) : Int) := or_join ac y 16 (by omega) hac2 (by omega)
                    have hm := mod_step k 2
                    have hbm := bt_hit hz
                    have HS : Hid (p + 1 = pr.length + 1 + (bt x 4).length + (bt k (2 + 1)).length ∧ ac + y * 65536 = k % 256 ^ (2 + 1)) := ⟨by rw [HP.out, hbm, List.length_append]; simp; omega, by rw [HA.out, hm, hy]⟩
                    have HOR := hide hor
                    clear hm hbm hz hor hcc hy
                    go_wp2
                    go_round
                    case rel => exact ⟨2 + 1, p + 1, ac + y * 65536, by omega, rfl, by rw [← HOR.out], by go_num, HS.out.1, HS.out.2⟩
                    case measure => simp [intOf]
        · by_cases hz : byt x j = 0
          · rcases (show j = 0 ∨ j = 1 ∨ j = 2 ∨ j = 3 from by omega) with rfl | rfl | rfl | rfl
            · have htest : (bits .and .u8 (o : Int) 1 != 0) = false := by
                have e := and_bit o 0 ho256 (by omega)
                rw [HO.out, op_off x k 0 (by omega), if_pos hz, ← HO.out] at e
                rw [show ((1 : Int)) = ((2 ^ 0 : Nat) : Int) from rfl, e]; rfl
              have hm := mod_step x 0
              have hbm := bt_miss hz
              rw [hz] at hm
              have HS : Hid (p = pr.length + 1 + (bt x (0 + 1)).length ∧ ac = x % 256 ^ (0 + 1)) := ⟨by rw [HP.out, hbm], by rw [HA.out, hm]; simp⟩
              clear hm hbm hz
              go_wp2
              go_round
              case rel => exact ⟨0 + 1, p, ac, by omega, rfl, rfl, rfl, HS.out.1, HS.out.2⟩
              case measure => simp [intOf]
            · have htest : (bits .and .u8 (o : Int) 2 != 0) = false := by
                have e := and_bit o 1 ho256 (by omega)
                rw [HO.out, op_off x k 1 (by omega), if_pos hz, ← HO.out] at e
                rw [show ((2 : Int)) = ((2 ^ 1 : Nat) : Int) from rfl, e]; rfl
              have hm := mod_step x 1
              have hbm := bt_miss hz
              rw [hz] at hm
              have HS : Hid (p = pr.length + 1 + (bt x (1 + 1)).length ∧ ac = x % 256 ^ (1 + 1)) := ⟨by rw [HP.out, hbm], by rw [HA.out, hm]; simp⟩
              clear hm hbm hz
              go_wp2
              go_round
              case rel => exact ⟨1 + 1, p, ac, by omega, rfl, rfl, rfl, HS.out.1, HS.out.2⟩
              case measure => simp [intOf]
            · have htest : (bits .and .u8 (o : Int) 4 != 0) = false := by
                have e := and_bit o 2 ho256 (by omega)
                rw [HO.out, op_off x k 2 (by omega), if_pos hz, ← HO.out] at e
                rw [show ((4 : Int)) = ((2 ^ 2 : Nat) : Int) from rfl, e]; rfl
              have hm := mod_step x 2
              have hbm := bt_miss hz
              rw [hz] at hm
              have HS : Hid (p = pr.length + 1 + (bt x (2 + 1)).length ∧ ac = x % 256 ^ (2 + 1)) := ⟨by rw [HP.out, hbm], by rw [HA.out, hm]; simp⟩
              clear hm hbm hz
              go_wp2
              go_round
              case rel => exact ⟨2 + 1, p, ac, by omega, rfl, rfl, rfl, HS.out.1, HS.out.2⟩
              case measure => simp [intOf]
            · have htest : (bits .and .u8 (o : Int) 8 != 0) = false := by
                have e := and_bit o 3 ho256 (by omega)
                rw [HO.out, op_off x k 3 (by omega), if_pos hz, ← HO.out] at e
                rw [show ((8 : Int)) = ((2 ^ 3 : Nat) : Int) from rfl, e]; rfl
              have hm := mod_step x 3
              have hbm := bt_miss hz
              rw [hz] at hm
              have HS : Hid (p = pr.length + 1 + (bt x (3 + 1)).length ∧ ac = x % 256 ^ (3 + 1)) := ⟨by rw [HP.out, hbm], by rw [HA.out, hm]; simp⟩
              clear hm hbm hz
              go_wp2
              go_round
              case rel => exact ⟨3 + 1, p, ac, by omega, rfl, rfl, rfl, HS.out.1, HS.out.2⟩
              case measure => simp [intOf]
          · rcases (show j = 0 ∨ j = 1 ∨ j = 2 ∨ j = 3 from by omega) with rfl | rfl | rfl | rfl
            · have htest : (bits .and .u8 (o : Int) 1 != 0) = true := by
                have e := and_bit o 0 ho256 (by omega)
                rw [HO.out, op_off x k 0 (by omega), if_neg hz, ← HO.out] at e
                rw [show ((1 : Int)) = ((2 ^ 0 : Nat) : Int) from rfl, e]; rfl
              have hcc := ins_off pr rest x k 0 hz (by omega)
              rw [← HP.out, ← HE.out] at hcc
              obtain ⟨y, hy⟩ : ∃ y, y = byt x 0 := ⟨_, rfl⟩
              rw [← hy] at hcc
              have hpM : p < M := by rw [HM.out]; exact hcc.2
              have hcy := HCELL.out p hpM
              rw [hcc.1] at hcy
              have hy256 : y < 256 := by rw [hy]; exact byt_lt _ _
              have hac2 : ac < 1 := by rw [HA.out]; exact Nat.mod_lt _ (by decide)
              have hor : bits .or .u64 (ac : Int) (y : Int) = ((ac + y : Nat) : Int) := or_join0 ac y (by omega) (by omega)
              have hm := mod_step x 0
              have hbm := bt_hit hz
              have HS : Hid (p + 1 = pr.length + 1 + (bt x (0 + 1)).length ∧ ac + y = x % 256 ^ (0 + 1)) := ⟨by rw [HP.out, hbm, List.length_append]; simp; omega, by rw [HA.out, hm, hy]; simp⟩
              have HOR := hide hor
              clear hm hbm hz hor hcc hy
              go_wp2
              go_round
              case rel => exact ⟨0 + 1, p + 1, ac + y, by omega, rfl, by rw [← HOR.out], by go_num, HS.out.1, HS.out.2⟩
              case measure => simp [intOf]
            · have htest : (bits .and .u8 (o : Int) 2 != 0) = true := by
                have e := and_bit o 1 ho256 (by omega)
                rw [HO.out, op_off x k 1 (by omega), if_neg hz, ← HO.out] at e
                rw [show ((2 : Int)) = ((2 ^ 1 : Nat) : Int) from rfl, e]; rfl
              have hcc := ins_off pr rest x k 1 hz (by omega)
              rw [← HP.out, ← HE.out] at hcc
              obtain ⟨y, hy⟩ : ∃ y, y = byt x 1 := ⟨_, rfl⟩
              rw [← hy] at hcc
              have hpM : p < M := by rw [HM.out]; exact hcc.2
              have hcy := HCELL.out p hpM
              rw [hcc.1] at hcy
              have hy256 : y < 256 := by rw [hy]; exact byt_lt _ _
              have hac2 : ac < 256 := by rw [HA.out]; exact Nat.mod_lt _ (by decide)
              have hor : bits .or .u64 (ac : Int) ((y : Int) * 256) = ((ac + y * 256 : Nat) : Int) := or_join ac y 8 (by omega) hac2 (by omega)
              have hm := mod_step x 1
              have hbm := bt_hit hz
              have HS : Hid (p + 1 = pr.length + 1 + (bt x (1 + 1)).length ∧ ac + y * 256 = x % 256 ^ (1 + 1)) := ⟨by rw [HP.out, hbm, List.length_append]; simp; omega, by rw [HA.out, hm, hy]⟩
              have HOR := hide hor
              clear hm hbm hz hor hcc hy
              go_wp2
              go_round
              case rel => exact ⟨1 + 1, p + 1, ac + y * 256, by omega, rfl, by rw [← HOR.out], by go_num, HS.out.1, HS.out.2⟩
              case measure => simp [intOf]
            · have htest : (bits .and .u8 (o : Int) 4 != 0) = true := by
                have e := and_bit o 2 ho256 (by omega)
                rw [HO.out, op_off x k 2 (by omega), if_neg hz, ← HO.out] at e
                rw [show ((4 : Int)) = ((2 ^ 2 : Nat) : Int) from rfl, e]; rfl
              have hcc := ins_off pr rest x k 2 hz (by omega)
              rw [← HP.out, ← HE.out] at hcc
              obtain ⟨y, hy⟩ : ∃ y, y = byt x 2 := ⟨_, rfl⟩
              rw [← hy] at hcc
              have hpM : p < M := by rw [HM.out]; exact hcc.2
              have hcy := HCELL.out p hpM
              rw [hcc.1] at hcy
              have hy256 : y < 256 := by rw [hy]; exact byt_lt _ _
              have hac2 : ac < 65536 := by rw [HA.out]; exact Nat.mod_lt _ (by decide)
              have hor : bits .or .u64 (ac : Int) ((y : Int) * 65536) = ((ac + y * 65536 : Nat) : Int) := or_join ac y 16 (by omega) hac2 (by omega)
              have hm := mod_step x 2
              have hbm := bt_hit hz
              have HS : Hid (p + 1 = pr.length + 1 + (bt x (2 + 1)).length ∧ ac + y * 65536 = x % 256 ^ (2 + 1)) := ⟨by rw [HP.out, hbm, List.length_append]; simp; omega, by rw [HA.out, hm, hy]⟩
              have HOR := hide hor
              clear hm hbm hz hor hcc hy
              go_wp2
              go_round
              case rel => exact ⟨2 + 1, p + 1, ac + y * 65536, by omega, rfl, by rw [← HOR.out], by go_num, HS.out.1, HS.out.2⟩
              case measure => simp [intOf]
            · have htest : (bits .and .u8 (o : Int) 8 != 0) = true := by
                have e := and_bit o 3 ho256 (by omega)
                rw [HO.out, op_off x k 3 (by omega), if_neg hz, ← HO.out] at e
                rw [show ((8 : Int)) = ((2 ^ 3 : Nat) : Int) from rfl, e]; rfl
              have hcc := ins_off pr rest x k 3 hz (by omega)
              rw [← HP.out, ← HE.out] at hcc
              obtain ⟨y, hy⟩ : ∃ y, y = byt x 3 := ⟨_, rfl⟩
              rw [← hy] at hcc
              have hpM : p < M := by rw [HM.out]; exact hcc.2
              have hcy := HCELL.out p hpM
              rw [hcc.1] at hcy
              have hy256 : y < 256 := by rw [hy]; exact byt_lt _ _
              have hac2 : ac < 16777216 := by rw [HA.out]; exact Nat.mod_lt _ (by decide)
              have hor : bits .or .u64 (ac : Int) ((y : Int) * 16777216) = ((ac + y * 16777216 : Nat) : Int) := or_join ac y 24 (by omega) hac2 (by omega)
              have hm := mod_step x 3
              have hbm := bt_hit hz
              have HS : Hid (p + 1 = pr.length + 1 + (bt x (3 + 1)).length ∧ ac + y * 16777216 = x % 256 ^ (3 + 1)) := ⟨by rw [HP.out, hbm, List.length_append]; simp; omega, by rw [HA.out, hm, hy]⟩
              have HOR := hide hor
              clear hm hbm hz hor hcc hy
              go_wp2
              go_round
              case rel => exact ⟨3 + 1, p + 1, ac + y * 16777216, by omega, rfl, by rw [← HOR.out], by go_num, HS.out.1, HS.out.2⟩
              case measure => simp [intOf]
end Go.Proofs.Qxb6002678a
