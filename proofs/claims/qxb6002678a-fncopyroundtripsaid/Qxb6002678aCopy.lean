/-
  THE WALKS of appendCopy (25) and ZZAppendCopy (20). The two inner loops' cases (one a byte) were laid out by a small script of the prover's.
-/
import Derived.Test.Qxb6002678aOwn
import Derived.Test.Qxb6002678aCopyPlain
import Derived.RegionTactic
namespace Go.Proofs.Qxb6002678a
open Go.RowKit

theorem set_mid (a r : List Nat) (b c : Nat) : (a ++ b :: r).set a.length c = a ++ c :: r := by simp
theorem hide {p : Prop} (h : p) : Hid p := h

set_option maxHeartbeats 2000000 in
theorem copy_any (base : Nat) (bs : List Nat) (v : Value) (x0 n0 : Nat) (hx : x0 + n0 ≤ 4294967296) (w : World) (hown : Own w base v bs) (hbs : bs.length ≤ 1048576) (hbase : base ≤ w.heap.size) :
    Calls Try.prog 25 #[v, .int .i64 (x0 : Int), .int .i64 (n0 : Int)] w fun e w' => ∃ v', e = .returned v' ∧ Own w' base v' (bs ++ cp 257 x0 n0) ∧ Kept base bs.length w w' := by
  obtain ⟨i0, hi, hz0, hz1, hz2⟩ := info_parts Try.info5
  go_enter Try.func25, Try.ntmps25
  go_wp2
  go_loopw [0, 1, 2] (fun b fr nn wr => ∃ (f x n : Nat) (pr : List Nat), bs ++ cp 257 x0 n0 = pr ++ cp f x n ∧ n ≤ f * 16777215 ∧ x + n ≤ 4294967296 ∧ pr.length + 8 * n ≤ bs.length + 8 * n0 ∧ bs.length ≤ pr.length ∧ fr = .int .i64 (x : Int) ∧ nn = .int .i64 (n : Int) ∧ Own wr base b pr ∧ Kept base bs.length w wr)
    (fun _ _ nn _ => (intOf nn).toNat)
  case atStart =>
    exact ⟨257, x0, n0, bs, rfl, by omega, hx, by omega, by omega, rfl, rfl, hown, Kept.refl _ _ _⟩
  case round =>
    obtain ⟨f, x, n, pr, he, hn, hxn, hpl, hbp, rfl, rfl, ho, hk⟩ := hrel
    have hsz := hk.below.size
    have HE : Hid (bs ++ cp 257 x0 n0 = pr ++ cp f x n) := he
    clear he
    by_cases h0 : n = 0
    · subst h0
      go_wp2
      go_ret
      exact ⟨_, rfl, by rw [HE.out, cp_zero]; simpa using ho, hk⟩
    · obtain ⟨k, hk0⟩ : ∃ k, k = min n 16777215 := ⟨_, rfl⟩
      have hk1 : 1 ≤ k := by omega
      have hk2 : k ≤ 16777215 := by omega
      have hk3 : k ≤ n := by omega
      have HK : Hid (k = min n 16777215) := hk0
      have hmin : (if (16777215 : Int) < (n : Int) then (16777215 : Int) else (n : Int)) = (k : Int) := by split <;> omega
      clear hk0
      obtain ⟨ao, cap, rfl⟩ := ho.form
      go_wp2_with (at_builtin; refine wpList_append_keep _ rfl _ _ 22 rfl base i0 Try.underlying22 hi hz0 hz1 hz2 _ _ rfl (ho.alloc _) ⟨wr.heap.size, 0, none⟩ 1 1 [128] rfl rfl ?c1 ?c2 ?c3 ?_)
      case c1 => exact one_new _ 128
      case c2 => omega
      case c3 => simp; omega
      intro v1 w1 ho1 hk1' _
      have hkk : Kept base bs.length w w1 := hk.trans ((Kept.refl _ _ _).alloc (by omega) _ |>.trans hk1' (Nat.le_refl _)) hbp
      clear hk1' ho hk hmin
      go_wp2
      go_loopw [0, 22] (fun b ii w2 => ∃ j : Nat, j ≤ 4 ∧ ii = .int .i64 (j : Int) ∧ Own w2 base b (pr ++ (128 + fg x j) :: bt x j) ∧ Kept base bs.length w w2) (fun _ ii _ => 4 - (intOf ii).toNat)
      case atStart => exact ⟨0, by omega, rfl, ho1, hkk⟩
      case round =>
        obtain ⟨j, hj, rfl, ho2, hk2⟩ := hrel
        have hsz2 := hk2.below.size
        have hfl := fg_lt x j
        have hbl := bt_le x j
        by_cases hend : j = 4
        · subst hend
          go_wp2
          go_loopw [0, 45] (fun b ii w2 => ∃ j : Nat, j ≤ 3 ∧ ii = .int .i64 (j : Int) ∧ Own w2 base b (pr ++ (128 + fg x 4 + 16 * fg k j) :: (bt x 4 ++ bt k j)) ∧ Kept base bs.length w w2) (fun _ ii _ => 3 - (intOf ii).toNat)
          case atStart => exact ⟨0, by omega, rfl, by simpa [fg, bt] using ho2, hk2⟩
          case round =>
              obtain ⟨j, hj, rfl, ho2, hk2⟩ := hrel
              have hsz2 := hk2.below.size
              have hfl := fg_lt k j
              have hbl := bt_le k j
              have hbl4 := bt_le x 4
              by_cases hend : j = 3
              · subst hend
                go_wp2
                go_roundw
                case rel =>
                  have hf0 : f ≠ 0 := by
                    intro h
                    subst h
                    simp at hn
                    omega
                  obtain ⟨f, rfl⟩ : ∃ f', f = f' + 1 := ⟨f - 1, by omega⟩
                  have hil := ins_len x k
                  have hstep : bs ++ cp 257 x0 n0 = (pr ++ ins x k) ++ cp f (x + k) (n - k) := by rw [HE.out, cp_step f x n h0, ← HK.out]; simp
                  have hlen : (pr ++ ins x k).length = pr.length + (ins x k).length := List.length_append
                  have hmin2 := HK.out
                  exact ⟨f, x + k, n - k, pr ++ ins x k, hstep, by omega, by omega, by omega, by omega, by go_num, by go_num, ho2, hk2⟩
                case measure => simp [intOf]; omega
              · obtain ⟨o, hoo⟩ : ∃ o, o = 128 + fg x 4 + 16 * fg k j := ⟨_, rfl⟩
                have hcut : Own wr base u0 (pr ++ o :: (bt x 4 ++ bt k j)) := by rw [hoo]; exact ho2
                have HO : Hid (o = 128 + fg x 4 + 16 * fg k j) := hoo
                have ho256 : o < 256 := by rw [hoo]; exact op_lt2 x k j hj
                clear hoo ho2
                obtain ⟨g, cap2, hv, hbg, hgl, hlc, _, hcell, hfree⟩ := hcut.shape (by simp only [List.length_append, List.length_cons]; omega)
                obtain ⟨L, hL⟩ : ∃ L, L = (pr ++ o :: (bt x 4 ++ bt k j)).length := ⟨_, rfl⟩
                rw [← hL] at hv hlc
                subst hv
                have hcell1 := hcell pr.length (by simp only [List.length_append, List.length_cons]; omega)
                rw [getD_mid] at hcell1
                have hfree1 := hfree pr.length
                have hpL : pr.length < L ∧ L ≤ pr.length + 8 := by rw [hL]; simp only [List.length_append, List.length_cons]; omega
                have HL : Hid (L = (pr ++ o :: (bt x 4 ++ bt k j)).length) := hL
                clear hcell hfree hL
                by_cases hz : byt k j = 0
                · rcases (show j = 0 ∨ j = 1 ∨ j = 2 from by omega) with rfl | rfl | rfl
                  · have hcn : (((k : Int) % 256) != 0) = false := by
                      have : ((k : Int) % 256) = ((byt k 0 : Nat) : Int) := by simp [byt]
                      rw [this, hz]; rfl
                    have HZ : Hid (byt k 0 = 0) := hz
                    clear hz
                    go_wp2
                    go_roundw
                    case rel => exact ⟨0 + 1, by omega, rfl, by rw [fg_miss HZ.out, bt_miss HZ.out, ← HO.out]; exact hcut, hk2⟩
                    case measure => simp [intOf]
                  · have hcn : (((k : Int) / 256 % 256) != 0) = false := by
                      have : ((k : Int) / 256 % 256) = ((byt k 1 : Nat) : Int) := by simp [byt]
                      rw [this, hz]; rfl
                    have HZ : Hid (byt k 1 = 0) := hz
                    clear hz
                    go_wp2
                    go_roundw
                    case rel => exact ⟨1 + 1, by omega, rfl, by rw [fg_miss HZ.out, bt_miss HZ.out, ← HO.out]; exact hcut, hk2⟩
                    case measure => simp [intOf]
                  · have hcn : (((k : Int) / 65536 % 256) != 0) = false := by
                      have : ((k : Int) / 65536 % 256) = ((byt k 2 : Nat) : Int) := by simp [byt]
                      rw [this, hz]; rfl
                    have HZ : Hid (byt k 2 = 0) := hz
                    clear hz
                    go_wp2
                    go_roundw
                    case rel => exact ⟨2 + 1, by omega, rfl, by rw [fg_miss HZ.out, bt_miss HZ.out, ← HO.out]; exact hcut, hk2⟩
                    case measure => simp [intOf]
                · rcases (show j = 0 ∨ j = 1 ∨ j = 2 from by omega) with rfl | rfl | rfl
                  · obtain ⟨c, hc⟩ : ∃ c, c = byt k 0 := ⟨_, rfl⟩
                    have hrc : ((k : Int) % 256) = (c : Int) := by rw [hc]; simp [byt]
                    have hcn : (((k : Int) % 256) != 0) = true := by rw [hrc]; simp; omega
                    have hor : bits .or .u8 (o : Int) 16 = ((o + 16 : Nat) : Int) := or_bit o 4 ho256 (by omega) (by rw [HO.out]; exact op_z2 x k 0 (by omega))
                    obtain ⟨hset, hkset⟩ := hcut.set pr.length (o + 16) bs.length hbp
                    rw [set_mid, ← hor] at hset
                    rw [← hor] at hkset
                    have hks := hk2.trans hkset (Nat.le_refl _)
                    have HS : Hid (pr ++ (o + 16) :: (bt x 4 ++ (bt k 0 ++ [c])) = pr ++ (128 + fg x 4 + 16 * fg k 1) :: (bt x 4 ++ bt k 1)) := by
                      show _ = _
                      rw [fg_hit hz, bt_hit hz, HO.out, hc]
                      simp [Nat.add_assoc, Nat.mul_add]
                    have HR : Hid (((k : Int) % 256) = (c : Int)) := hrc
                    clear hrc hc hor hcut hz hkset
                    go_wp2
                    go_region
                    go_wp2_with (at_builtin; refine wpList_append_keep _ rfl _ _ 22 rfl base i0 Try.underlying22 hi hz0 hz1 hz2 _ _ rfl ((hset.alloc _).drew) ⟨wr.heap.size, 0, none⟩ 1 1 [c] rfl rfl ?b01 ?b02 ?b03 ?_)
                    case b01 => exact one_new' _ _ (size_setCell _ _ _).symm c _ (by first | exact HR.out | (have := HR.out; omega))
                    case b02 => simp; omega
                    case b03 => simp; omega
                    intro v3 w3 ho3 hk3 _
                    rw [HS.out] at ho3
                    have ho4 := hide ho3
                    have hk4 : Kept base bs.length w w3 := hks.trans (((Kept.refl _ _ _).alloc (by simp; omega) _).drew.trans hk3 (Nat.le_refl _)) (by first | omega | (simp; omega))
                    clear hk3 hks ho3
                    go_wp2
                    go_roundw
                    case rel => first | exact ⟨0 + 1, by omega, rfl, ho4.out, hk4⟩ | ((repeat apply Exists.intro); refine ⟨?_, rfl⟩; exact ⟨0 + 1, by omega, rfl, ho4.out, hk4⟩)
                    case measure => simp [intOf]
                  · obtain ⟨c, hc⟩ : ∃ c, c = byt k 1 := ⟨_, rfl⟩
                    have hrc : ((k : Int) / 256 % 256) = (c : Int) := by rw [hc]; simp [byt]
                    have hcn : (((k : Int) / 256 % 256) != 0) = true := by rw [hrc]; simp; omega
                    have hor : bits .or .u8 (o : Int) 32 = ((o + 32 : Nat) : Int) := or_bit o 5 ho256 (by omega) (by rw [HO.out]; exact op_z2 x k 1 (by omega))
                    obtain ⟨hset, hkset⟩ := hcut.set pr.length (o + 32) bs.length hbp
                    rw [set_mid, ← hor] at hset
                    rw [← hor] at hkset
                    have hks := hk2.trans hkset (Nat.le_refl _)
                    have HS : Hid (pr ++ (o + 32) :: (bt x 4 ++ (bt k 1 ++ [c])) = pr ++ (128 + fg x 4 + 16 * fg k 2) :: (bt x 4 ++ bt k 2)) := by
                      show _ = _
                      rw [fg_hit hz, bt_hit hz, HO.out, hc]
                      simp [Nat.add_assoc, Nat.mul_add]
                    have HR : Hid (((k : Int) / 256 % 256) = (c : Int)) := hrc
                    clear hrc hc hor hcut hz hkset
                    go_wp2
                    go_region
                    go_wp2_with (at_builtin; refine wpList_append_keep _ rfl _ _ 22 rfl base i0 Try.underlying22 hi hz0 hz1 hz2 _ _ rfl ((hset.alloc _).drew) ⟨wr.heap.size, 0, none⟩ 1 1 [c] rfl rfl ?b11 ?b12 ?b13 ?_)
                    case b11 => exact one_new' _ _ (size_setCell _ _ _).symm c _ (by first | exact HR.out | (have := HR.out; omega))
                    case b12 => simp; omega
                    case b13 => simp; omega
                    intro v3 w3 ho3 hk3 _
                    rw [HS.out] at ho3
                    have ho4 := hide ho3
                    have hk4 : Kept base bs.length w w3 := hks.trans (((Kept.refl _ _ _).alloc (by simp; omega) _).drew.trans hk3 (Nat.le_refl _)) (by first | omega | (simp; omega))
                    clear hk3 hks ho3
                    go_wp2
                    go_roundw
                    case rel => first | exact ⟨1 + 1, by omega, rfl, ho4.out, hk4⟩ | ((repeat apply Exists.intro); refine ⟨?_, rfl⟩; exact ⟨1 + 1, by omega, rfl, ho4.out, hk4⟩)
                    case measure => simp [intOf]
                  · obtain ⟨c, hc⟩ : ∃ c, c = byt k 2 := ⟨_, rfl⟩
                    have hrc : ((k : Int) / 65536 % 256) = (c : Int) := by rw [hc]; simp [byt]
                    have hcn : (((k : Int) / 65536 % 256) != 0) = true := by rw [hrc]; simp; omega
                    have hor : bits .or .u8 (o : Int) 64 = ((o + 64 : Nat) : Int) := or_bit o 6 ho256 (by omega) (by rw [HO.out]; exact op_z2 x k 2 (by omega))
                    obtain ⟨hset, hkset⟩ := hcut.set pr.length (o + 64) bs.length hbp
                    rw [set_mid, ← hor] at hset
                    rw [← hor] at hkset
                    have hks := hk2.trans hkset (Nat.le_refl _)
                    have HS : Hid (pr ++ (o + 64) :: (bt x 4 ++ (bt k 2 ++ [c])) = pr ++ (128 + fg x 4 + 16 * fg k 3) :: (bt x 4 ++ bt k 3)) := by
                      show _ = _
                      rw [fg_hit hz, bt_hit hz, HO.out, hc]
                      simp [Nat.add_assoc, Nat.mul_add]
                    have HR : Hid (((k : Int) / 65536 % 256) = (c : Int)) := hrc
                    clear hrc hc hor hcut hz hkset
                    go_wp2
                    go_region
                    go_wp2_with (at_builtin; refine wpList_append_keep _ rfl _ _ 22 rfl base i0 Try.underlying22 hi hz0 hz1 hz2 _ _ rfl ((hset.alloc _).drew) ⟨wr.heap.size, 0, none⟩ 1 1 [c] rfl rfl ?b21 ?b22 ?b23 ?_)
                    case b21 => exact one_new' _ _ (size_setCell _ _ _).symm c _ (by first | exact HR.out | (have := HR.out; omega))
                    case b22 => simp; omega
                    case b23 => simp; omega
                    intro v3 w3 ho3 hk3 _
                    rw [HS.out] at ho3
                    have ho4 := hide ho3
                    have hk4 : Kept base bs.length w w3 := hks.trans (((Kept.refl _ _ _).alloc (by simp; omega) _).drew.trans hk3 (Nat.le_refl _)) (by first | omega | (simp; omega))
                    clear hk3 hks ho3
                    go_wp2
                    go_roundw
                    case rel => first | exact ⟨2 + 1, by omega, rfl, ho4.out, hk4⟩ | ((repeat apply Exists.intro); refine ⟨?_, rfl⟩; exact ⟨2 + 1, by omega, rfl, ho4.out, hk4⟩)
                    case measure => simp [intOf]
        · obtain ⟨o, hoo⟩ : ∃ o, o = 128 + fg x j := ⟨_, rfl⟩
          have hcut : Own wr base u0 (pr ++ o :: (bt x j)) := by rw [hoo]; exact ho2
          have HO : Hid (o = 128 + fg x j) := hoo
          have ho256 : o < 256 := by rw [hoo]; exact op_lt1 x j hj
          clear hoo ho2
          obtain ⟨g, cap2, hv, hbg, hgl, hlc, _, hcell, hfree⟩ := hcut.shape (by simp only [List.length_append, List.length_cons]; omega)
          obtain ⟨L, hL⟩ : ∃ L, L = (pr ++ o :: (bt x j)).length := ⟨_, rfl⟩
          rw [← hL] at hv hlc
          subst hv
          have hcell1 := hcell pr.length (by simp only [List.length_append, List.length_cons]; omega)
          rw [getD_mid] at hcell1
          have hfree1 := hfree pr.length
          have hpL : pr.length < L ∧ L ≤ pr.length + 8 := by rw [hL]; simp only [List.length_append, List.length_cons]; omega
          have HL : Hid (L = (pr ++ o :: (bt x j)).length) := hL
          clear hcell hfree hL
          by_cases hz : byt x j = 0
          · rcases (show j = 0 ∨ j = 1 ∨ j = 2 ∨ j = 3 from by omega) with rfl | rfl | rfl | rfl
            · have hcn : (((x : Int) % 256) != 0) = false := by
                have : ((x : Int) % 256) = ((byt x 0 : Nat) : Int) := by simp [byt]
                rw [this, hz]; rfl
              have HZ : Hid (byt x 0 = 0) := hz
              clear hz
              go_wp2
              go_roundw
              case rel => exact ⟨0 + 1, by omega, rfl, by rw [fg_miss HZ.out, bt_miss HZ.out, ← HO.out]; exact hcut, hk2⟩
              case measure => simp [intOf]
            · have hcn : (((x : Int) / 256 % 256) != 0) = false := by
                have : ((x : Int) / 256 % 256) = ((byt x 1 : Nat) : Int) := by simp [byt]
                rw [this, hz]; rfl
              have HZ : Hid (byt x 1 = 0) := hz
              clear hz
              go_wp2
              go_roundw
              case rel => exact ⟨1 + 1, by omega, rfl, by rw [fg_miss HZ.out, bt_miss HZ.out, ← HO.out]; exact hcut, hk2⟩
              case measure => simp [intOf]
            · have hcn : (((x : Int) / 65536 % 256) != 0) = false := by
                have : ((x : Int) / 65536 % 256) = ((byt x 2 : Nat) : Int) := by simp [byt]
                rw [this, hz]; rfl
              have HZ : Hid (byt x 2 = 0) := hz
              clear hz
              go_wp2
              go_roundw
              case rel => exact ⟨2 + 1, by omega, rfl, by rw [fg_miss HZ.out, bt_miss HZ.out, ← HO.out]; exact hcut, hk2⟩
              case measure => simp [intOf]
            · have hcn : (((x : Int) / 16777216 % 256) != 0) = false := by
                have : ((x : Int) / 16777216 % 256) = ((byt x 3 : Nat) : Int) := by simp [byt]
                rw [this, hz]; rfl
              have HZ : Hid (byt x 3 = 0) := hz
              clear hz
              go_wp2
              go_roundw
              case rel => exact ⟨3 + 1, by omega, rfl, by rw [fg_miss HZ.out, bt_miss HZ.out, ← HO.out]; exact hcut, hk2⟩
              case measure => simp [intOf]
          · rcases (show j = 0 ∨ j = 1 ∨ j = 2 ∨ j = 3 from by omega) with rfl | rfl | rfl | rfl
            · obtain ⟨c, hc⟩ : ∃ c, c = byt x 0 := ⟨_, rfl⟩
              have hrc : ((x : Int) % 256) = (c : Int) := by rw [hc]; simp [byt]
              have hcn : (((x : Int) % 256) != 0) = true := by rw [hrc]; simp; omega
              have hor : bits .or .u8 (o : Int) 1 = ((o + 1 : Nat) : Int) := or_bit o 0 ho256 (by omega) (by rw [HO.out]; exact op_z1 x 0 (by omega))
              obtain ⟨hset, hkset⟩ := hcut.set pr.length (o + 1) bs.length hbp
              rw [set_mid, ← hor] at hset
              rw [← hor] at hkset
              have hks := hk2.trans hkset (Nat.le_refl _)
              have HS : Hid (pr ++ (o + 1) :: (bt x 0 ++ [c]) = pr ++ (128 + fg x 1) :: (bt x 1)) := by
                show _ = _
                rw [fg_hit hz, bt_hit hz, HO.out, hc]
                simp [Nat.add_assoc]
              have HR : Hid (((x : Int) % 256) = (c : Int)) := hrc
              clear hrc hc hor hcut hz hkset
              go_wp2
              go_region
              go_wp2_with (at_builtin; refine wpList_append_keep _ rfl _ _ 22 rfl base i0 Try.underlying22 hi hz0 hz1 hz2 _ _ rfl ((hset.alloc _).drew) ⟨wr.heap.size, 0, none⟩ 1 1 [c] rfl rfl ?a01 ?a02 ?a03 ?_)
              case a01 => exact one_new' _ _ (size_setCell _ _ _).symm c _ (by first | exact HR.out | (have := HR.out; omega))
              case a02 => simp; omega
              case a03 => simp; omega
              intro v3 w3 ho3 hk3 _
              rw [HS.out] at ho3
              have ho4 := hide ho3
              have hk4 : Kept base bs.length w w3 := hks.trans (((Kept.refl _ _ _).alloc (by simp; omega) _).drew.trans hk3 (Nat.le_refl _)) (by first | omega | (simp; omega))
              clear hk3 hks ho3
              go_wp2
              go_roundw
              case rel => first | exact ⟨0 + 1, by omega, rfl, ho4.out, hk4⟩ | ((repeat apply Exists.intro); refine ⟨?_, rfl⟩; exact ⟨0 + 1, by omega, rfl, ho4.out, hk4⟩)
              case measure => simp [intOf]
            · obtain ⟨c, hc⟩ : ∃ c, c = byt x 1 := ⟨_, rfl⟩
              have hrc : ((x : Int) / 256 % 256) = (c : Int) := by rw [hc]; simp [byt]
              have hcn : (((x : Int) / 256 % 256) != 0) = true := by rw [hrc]; simp; omega
              have hor : bits .or .u8 (o : Int) 2 = ((o + 2 : Nat) : Int) := or_bit o 1 ho256 (by omega) (by rw [HO.out]; exact op_z1 x 1 (by omega))
              obtain ⟨hset, hkset⟩ := hcut.set pr.length (o + 2) bs.length hbp
              rw [set_mid, ← hor] at hset
              rw [← hor] at hkset
              have hks := hk2.trans hkset (Nat.le_refl _)
              have HS : Hid (pr ++ (o + 2) :: (bt x 1 ++ [c]) = pr ++ (128 + fg x 2) :: (bt x 2)) := by
                show _ = _
                rw [fg_hit hz, bt_hit hz, HO.out, hc]
                simp [Nat.add_assoc]
              have HR : Hid (((x : Int) / 256 % 256) = (c : Int)) := hrc
              clear hrc hc hor hcut hz hkset
              go_wp2
              go_region
              go_wp2_with (at_builtin; refine wpList_append_keep _ rfl _ _ 22 rfl base i0 Try.underlying22 hi hz0 hz1 hz2 _ _ rfl ((hset.alloc _).drew) ⟨wr.heap.size, 0, none⟩ 1 1 [c] rfl rfl ?a11 ?a12 ?a13 ?_)
              case a11 => exact one_new' _ _ (size_setCell _ _ _).symm c _ (by first | exact HR.out | (have := HR.out; omega))
              case a12 => simp; omega
              case a13 => simp; omega
              intro v3 w3 ho3 hk3 _
              rw [HS.out] at ho3
              have ho4 := hide ho3
              have hk4 : Kept base bs.length w w3 := hks.trans (((Kept.refl _ _ _).alloc (by simp; omega) _).drew.trans hk3 (Nat.le_refl _)) (by first | omega | (simp; omega))
              clear hk3 hks ho3
              go_wp2
              go_roundw
              case rel => first | exact ⟨1 + 1, by omega, rfl, ho4.out, hk4⟩ | ((repeat apply Exists.intro); refine ⟨?_, rfl⟩; exact ⟨1 + 1, by omega, rfl, ho4.out, hk4⟩)
              case measure => simp [intOf]
            · obtain ⟨c, hc⟩ : ∃ c, c = byt x 2 := ⟨_, rfl⟩
              have hrc : ((x : Int) / 65536 % 256) = (c : Int) := by rw [hc]; simp [byt]
              have hcn : (((x : Int) / 65536 % 256) != 0) = true := by rw [hrc]; simp; omega
              have hor : bits .or .u8 (o : Int) 4 = ((o + 4 : Nat) : Int) := or_bit o 2 ho256 (by omega) (by rw [HO.out]; exact op_z1 x 2 (by omega))
              obtain ⟨hset, hkset⟩ := hcut.set pr.length (o + 4) bs.length hbp
              rw [set_mid, ← hor] at hset
              rw [← hor] at hkset
              have hks := hk2.trans hkset (Nat.le_refl _)
              have HS : Hid (pr ++ (o + 4) :: (bt x 2 ++ [c]) = pr ++ (128 + fg x 3) :: (bt x 3)) := by
                show _ = _
                rw [fg_hit hz, bt_hit hz, HO.out, hc]
                simp [Nat.add_assoc]
              have HR : Hid (((x : Int) / 65536 % 256) = (c : Int)) := hrc
              clear hrc hc hor hcut hz hkset
              go_wp2
              go_region
              go_wp2_with (at_builtin; refine wpList_append_keep _ rfl _ _ 22 rfl base i0 Try.underlying22 hi hz0 hz1 hz2 _ _ rfl ((hset.alloc _).drew) ⟨wr.heap.size, 0, none⟩ 1 1 [c] rfl rfl ?a21 ?a22 ?a23 ?_)
              case a21 => exact one_new' _ _ (size_setCell _ _ _).symm c _ (by first | exact HR.out | (have := HR.out; omega))
              case a22 => simp; omega
              case a23 => simp; omega
              intro v3 w3 ho3 hk3 _
              rw [HS.out] at ho3
              have ho4 := hide ho3
              have hk4 : Kept base bs.length w w3 := hks.trans (((Kept.refl _ _ _).alloc (by simp; omega) _).drew.trans hk3 (Nat.le_refl _)) (by first | omega | (simp; omega))
              clear hk3 hks ho3
              go_wp2
              go_roundw
              case rel => first | exact ⟨2 + 1, by omega, rfl, ho4.out, hk4⟩ | ((repeat apply Exists.intro); refine ⟨?_, rfl⟩; exact ⟨2 + 1, by omega, rfl, ho4.out, hk4⟩)
              case measure => simp [intOf]
            · obtain ⟨c, hc⟩ : ∃ c, c = byt x 3 := ⟨_, rfl⟩
              have hrc : ((x : Int) / 16777216 % 256) = (c : Int) := by rw [hc]; simp [byt]
              have hcn : (((x : Int) / 16777216 % 256) != 0) = true := by rw [hrc]; simp; omega
              have hor : bits .or .u8 (o : Int) 8 = ((o + 8 : Nat) : Int) := or_bit o 3 ho256 (by omega) (by rw [HO.out]; exact op_z1 x 3 (by omega))
              obtain ⟨hset, hkset⟩ := hcut.set pr.length (o + 8) bs.length hbp
              rw [set_mid, ← hor] at hset
              rw [← hor] at hkset
              have hks := hk2.trans hkset (Nat.le_refl _)
              have HS : Hid (pr ++ (o + 8) :: (bt x 3 ++ [c]) = pr ++ (128 + fg x 4) :: (bt x 4)) := by
                show _ = _
                rw [fg_hit hz, bt_hit hz, HO.out, hc]
                simp [Nat.add_assoc]
              have HR : Hid (((x : Int) / 16777216 % 256) = (c : Int)) := hrc
              clear hrc hc hor hcut hz hkset
              go_wp2
              go_region
              go_wp2_with (at_builtin; refine wpList_append_keep _ rfl _ _ 22 rfl base i0 Try.underlying22 hi hz0 hz1 hz2 _ _ rfl ((hset.alloc _).drew) ⟨wr.heap.size, 0, none⟩ 1 1 [c] rfl rfl ?a31 ?a32 ?a33 ?_)
              case a31 => exact one_new' _ _ (size_setCell _ _ _).symm c _ (by first | exact HR.out | (have := HR.out; omega))
              case a32 => simp; omega
              case a33 => simp; omega
              intro v3 w3 ho3 hk3 _
              rw [HS.out] at ho3
              have ho4 := hide ho3
              have hk4 : Kept base bs.length w w3 := hks.trans (((Kept.refl _ _ _).alloc (by simp; omega) _).drew.trans hk3 (Nat.le_refl _)) (by first | omega | (simp; omega))
              clear hk3 hks ho3
              go_wp2
              go_roundw
              case rel => first | exact ⟨3 + 1, by omega, rfl, ho4.out, hk4⟩ | ((repeat apply Exists.intro); refine ⟨?_, rfl⟩; exact ⟨3 + 1, by omega, rfl, ho4.out, hk4⟩)
              case measure => simp [intOf]

set_option maxHeartbeats 400000 in
theorem zzcopy_any (base : Nat) (bs : List Nat) (v : Value) (x0 n0 : Nat) (hx : x0 + n0 ≤ 4294967296) (w : World) (hown : Own w base v bs) (hbs : bs.length ≤ 1048576) (hbase : base ≤ w.heap.size) :
    Calls Try.prog 20 #[v, .int .i64 (x0 : Int), .int .i64 (n0 : Int)] w fun e w' => ∃ v', e = .returned v' ∧ Own w' base v' (bs ++ cp 257 x0 n0) ∧ Kept base bs.length w w' := by
  go_enter Try.func20, Try.ntmps20
  go_wp2_with (go_at_call 25; refine (copy_any base bs v x0 n0 hx w hown hbs hbase).mono ?_; rintro e w' ⟨v', rfl, ho, hk⟩)
  go_ret
  exact ⟨v', rfl, ho, hk⟩
end Go.Proofs.Qxb6002678a
