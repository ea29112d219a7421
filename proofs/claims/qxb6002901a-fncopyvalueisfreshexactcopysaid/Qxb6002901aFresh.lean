/-
  THE WALK of FnCopyValueIsFreshExactCopy (5) where its tests let the input by.
-/
import Derived.Test.Qxb6002901aBytes
namespace Go.Proofs.Qxb6002901a
open Go.RowKit

/-- Any byte of a row written. -/
theorem Row.put {w : World} {N n : Nat} {f : Nat → Int} (h : Row w N n n f) (k : Nat) (z : Int) : Row (w.setCell ⟨N, k, none⟩ (.int .u8 z)) N n n (fun j => if j = k then z else f j) := by
  obtain ⟨cur, hg, hs, hc⟩ := h
  refine ⟨cur.setIfInBounds k (.int .u8 z), heap_setCell_same w N k cur 5 _ hg, by simpa using hs, ?_⟩
  intro j hj
  by_cases e : j = k
  · subst e
    rw [Array.getElem?_setIfInBounds_self_of_lt (by omega)]
    simp
  · rw [Array.getElem?_setIfInBounds_ne (by omega)]
    simp only [if_neg e]
    exact hc j hj

set_option maxHeartbeats 2000000 in
theorem fresh_pos (a0 : Option Addr) (len0 cap0 : Nat) (z0 : List Int) (b off n cap1 : Nat) (z1 : List Int) (x y : Int) (w : World) (w0 : ByteRow w a0 len0 cap0 z0) (w1 : ByteRow w (some ⟨b, off, none⟩) n cap1 z1)
    (hn : 1 ≤ n) (hb : len0 + n ≤ 1048576) :
    Calls Try.prog 5 #[.slice a0 len0 cap0, .slice (some ⟨b, off, none⟩) n cap1, .int .i64 x, .int .i64 y] w fun e w' => e = .returned (.bool true) ∧ Below w.heap.size w w' := by
  obtain ⟨f, hf⟩ : ∃ f : Nat → Int, f = fun j => z1.getD j 0 := ⟨_, rfl⟩
  have hv : ∀ j, j < n → w.cell? ⟨b, off + j, none⟩ = some (.int .u8 (f j)) := by
    intro j hj
    rcases w1 with ⟨h, _⟩ | ⟨x, hx, hl, _, hz, hc, _⟩
    · cases h
    · cases hx
      rw [hf]
      have := hc j (by omega)
      rwa [Addr.add_lit] at this
  have CK := clone_any a0 len0 cap0 z0 w w w0 (by omega) (Below.refl _ _)
  have CV := fun w1' h => clone_any (some ⟨b, off, none⟩) n cap1 z1 w w1' w1 (by omega) h
  rw [← hf] at CV
  have HV : Hid (∀ j, j < n → w.cell? ⟨b, off + j, none⟩ = some (.int .u8 (f j))) := hv
  clear hf hv w0 w1
  go_enter Try.func5, Try.ntmps5
  go_wp2_with (go_at_call 8; refine (zz_yes _ _ _ _ _ _ _ _ hb _).mono ?_; rintro e w' ⟨rfl, rfl⟩)
  refine CK.mono ?_
  rintro e w1 ⟨ak, ck, rfl, _, hb1⟩
  go_wp2_with fail
  refine (CV w1 hb1).mono ?_
  rintro e w2 ⟨av, cv, rfl, hav, hb2⟩
  have hav2 : av = some ⟨w1.heap.size, 0, none⟩ ∧ Row w2 w1.heap.size n n f := by
    rcases hav with h | h
    · omega
    · exact h
  clear hav CK CV
  obtain ⟨rfl, hrv⟩ := hav2
  have hholds : Holds w2 (some ⟨w1.heap.size, 0, none⟩) n f := .inr ⟨_, rfl, fun j hj => by rw [Addr.add_lit, Nat.zero_add]; exact hrv.cell j hj⟩
  go_wp2_with fail
  refine (zzcopy_any ak len0 ck (some ⟨w1.heap.size, 0, none⟩) n cv x y f (by omega) w2 hholds).mono ?_
  rintro e w3 ⟨g, rfl, hg, hr3, hb3⟩
  clear hholds
  have hbw2 : Below w.heap.size w w2 := hb1.trans (hb2.mono hb1.size)
  have hs1 := hb1.size
  have hs2 := hb2.size
  have hlt1 := hrv.lt
  have HB3 : Hid (Below w2.heap.size w2 w3) := hb3
  have HR3 : Hid (Row w3 g n n f) := hr3
  have HRV : Hid (Row w2 w1.heap.size n n f) := hrv
  have HBW2 : Hid (Below w.heap.size w w2) := hbw2
  clear hb1 hb2 hb3 hr3 hrv hbw2
  go_wp2
  go_loopw [11] (fun i wr => ∃ k : Nat, k ≤ n ∧ i = .int .i64 (k : Int) ∧ ∃ q, wr = w3.drewN q) (fun i _ => n - (intOf i).toNat)
  case atStart => exact ⟨0, Nat.zero_le _, rfl, 0, rfl⟩
  case round =>
    obtain ⟨k, hk, rfl, q, rfl⟩ := hrel
    by_cases hlt : k < n
    · obtain ⟨z, hz⟩ : ∃ z, z = f k := ⟨_, rfl⟩
      have e1 : w3.cell? ⟨g, k, none⟩ = some (.int .u8 z) := by rw [hz]; exact HR3.out.cell k hlt
      have e2 : w3.cell? ⟨b, off + k, none⟩ = some (.int .u8 z) := by
        have h1 := HV.out k hlt
        have hlt0 := World.block_lt_of_cell? w _ h1
        rw [HB3.out.cell (p := ⟨b, off + k, none⟩) (by show b < w2.heap.size; have : b < w.heap.size := hlt0; omega), HBW2.out.cell (p := ⟨b, off + k, none⟩) hlt0, h1, hz]
      clear hz
      go_wp2
      go_quiet (fail)
      go_wp2
      go_roundw
      case rel => exact ⟨k + 1, by omega, by go_num, by first | exact ⟨_, rfl⟩ | (simp only [World.drewN_drewN]; exact ⟨_, rfl⟩)⟩
      case measure => simp [intOf]; omega
    · go_wp2
      go_loopw [12] (fun i wr => ∃ k : Nat, k ≤ n ∧ i = .int .i64 (k : Int) ∧ (∃ f', Row wr g n n f') ∧ Below w2.heap.size w2 wr) (fun i _ => n - (intOf i).toNat)
      case atStart => exact ⟨0, Nat.zero_le _, rfl, ⟨f, HR3.out⟩, below_drewN HB3.out q⟩
      case round =>
        obtain ⟨k, hk, rfl, ⟨f', hrow⟩, hbel⟩ := hrel
        by_cases hlt : k < n
        · have e1 := hrow.cell k hlt
          have e2 := hrow.free k
          obtain ⟨z, hz⟩ : ∃ z, z = f' k := ⟨_, rfl⟩
          rw [← hz] at e1
          clear hz
          go_wp2
          go_roundw
          case rel => exact ⟨k + 1, by omega, by go_num, ⟨_, hrow.put k _⟩, hbel.setCell hg _⟩
          case measure => simp [intOf]; omega
        · obtain ⟨w5, hw5⟩ : ∃ w5, w5 = wr := ⟨_, rfl⟩
          rw [← hw5] at hbel ⊢
          have HB5 : Hid (Below w2.heap.size w2 w5) := hbel
          clear hw5 hbel hrow
          go_wp2
          go_loopw [13] (fun i wr => ∃ k : Nat, k ≤ n ∧ i = .int .i64 (k : Int) ∧ ∃ q, wr = w5.drewN q) (fun i _ => n - (intOf i).toNat)
          case atStart => exact ⟨0, Nat.zero_le _, rfl, 0, rfl⟩
          case round =>
            obtain ⟨k, hk, rfl, q, rfl⟩ := hrel
            by_cases hlt : k < n
            · obtain ⟨z, hz⟩ : ∃ z, z = f k := ⟨_, rfl⟩
              have e1 : w5.cell? ⟨w1.heap.size, k, none⟩ = some (.int .u8 z) := by
                rw [HB5.out.cell (p := ⟨w1.heap.size, k, none⟩) hlt1, hz]
                exact HRV.out.cell k hlt
              have e2 : w5.cell? ⟨b, off + k, none⟩ = some (.int .u8 z) := by
                have h1 := HV.out k hlt
                have hlt0 := World.block_lt_of_cell? w _ h1
                rw [HB5.out.cell (p := ⟨b, off + k, none⟩) (by show b < w2.heap.size; have : b < w.heap.size := hlt0; omega), HBW2.out.cell (p := ⟨b, off + k, none⟩) hlt0, h1, hz]
              clear hz
              go_wp2
              go_quiet (fail)
              go_wp2
              go_roundw
              case rel => exact ⟨k + 1, by omega, by go_num, by first | exact ⟨_, rfl⟩ | (simp only [World.drewN_drewN]; exact ⟨_, rfl⟩)⟩
              case measure => simp [intOf]; omega
            · go_wp2
              go_ret
              exact ⟨rfl, below_drewN (HBW2.out.trans (HB5.out.mono (by omega))) q⟩

set_option maxHeartbeats 1000000 in
theorem fresh_zero (a0 : Option Addr) (len0 cap0 : Nat) (z0 : List Int) (a1 : Option Addr) (cap1 : Nat) (z1 : List Int) (x y : Int) (w : World) (w0 : ByteRow w a0 len0 cap0 z0) (w1 : ByteRow w a1 0 cap1 z1)
    (hb : len0 ≤ 1048576) :
    Calls Try.prog 5 #[.slice a0 len0 cap0, .slice a1 0 cap1, .int .i64 x, .int .i64 y] w fun e w' => e = .returned (.bool true) ∧ Below w.heap.size w w' := by
  have CK := clone_any a0 len0 cap0 z0 w w w0 (by omega) (Below.refl _ _)
  have CV := fun w1' h => clone_any a1 0 cap1 z1 w w1' w1 (by omega) h
  clear w0 w1
  go_enter Try.func5, Try.ntmps5
  go_wp2_with (go_at_call 8; refine (zz_yes _ _ _ _ _ _ _ _ (by omega) _).mono ?_; rintro e w' ⟨rfl, rfl⟩)
  refine CK.mono ?_
  rintro e w1 ⟨ak, ck, rfl, _, hb1⟩
  go_wp2_with fail
  refine (CV w1 hb1).mono ?_
  rintro e w2 ⟨av, cv, rfl, _, hb2⟩
  clear CK CV
  have hholds : Holds w2 av 0 (fun _ => 0) := .inl rfl
  go_wp2_with fail
  refine (zzcopy_any ak len0 ck av 0 cv x y (fun _ => 0) (by omega) w2 hholds).mono ?_
  rintro e w3 ⟨g, rfl, hg, hr3, hb3⟩
  have hbw : Below w.heap.size w w3 := (hb1.trans (hb2.mono hb1.size)).trans (hb3.mono (by have := hb1.size; have := hb2.size; omega))
  clear hholds hb1 hb2 hb3 hr3
  go_wp2
  refine wp_loop_rounds 1 ?_
  rw [rounds_succ]
  go_wp2
  refine wp_loop_rounds 1 ?_
  rw [rounds_succ]
  go_wp2
  refine wp_loop_rounds 1 ?_
  rw [rounds_succ]
  go_wp2
  go_ret
  exact ⟨rfl, hbw⟩
end Go.Proofs.Qxb6002901a
