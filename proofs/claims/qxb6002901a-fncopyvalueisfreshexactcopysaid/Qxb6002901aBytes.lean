/-
  THE WALKS of zzClone (9), copyValue (11), ZZCopyValue (10) and zzBytes (8).
-/
import Derived.Test.Qxb6002901aRows
import Derived.WalkKit
import Derived.WalkSpells
import Derived.WalkLawsBesides
import Derived.Laws.CopyOwn
import Derived.Lib.SliceRun
import Derived.Deep.QuietTactic
import Derived.BigQuiet
namespace Go.Proofs.Qxb6002901a
open Go.RowKit

theorem Try.info5 : (Try.prog.info? 5).map (fun i => (i.zero, i.size, i.bytes)) = some (some (.int .u8 0), 1, 1) := by kernel_rfl

/-- Block N is a row of n cells that may be written; its first k cells hold the bytes f 0, f 1, .. -/
def Row (w : World) (N n k : Nat) (f : Nat → Int) : Prop :=
  ∃ cur : Array Value, w.heap[N]? = some (.cells cur 5 (0, 0)) ∧ cur.size = n ∧ ∀ j, j < k → cur[j]? = some (.int .u8 (f j))

theorem Row.lt {w : World} {N n k : Nat} {f : Nat → Int} (h : Row w N n k f) : N < w.heap.size := by
  obtain ⟨cur, hg, _⟩ := h
  exact (Array.getElem?_eq_some_iff.1 hg).1
theorem Row.free {w : World} {N n k : Nat} {f : Nat → Int} (h : Row w N n k f) (j : Nat) : w.frozen? ⟨N, j, none⟩ = false := by
  obtain ⟨cur, hg, _⟩ := h
  simp [World.frozen?, hg]
theorem Row.there {w : World} {N n k : Nat} {f : Nat → Int} (h : Row w N n k f) (j : Nat) (hj : j < n) : ∃ v, w.cell? ⟨N, j, none⟩ = some v := by
  obtain ⟨cur, hg, hs, _⟩ := h
  exact ⟨cur[j]'(by omega), by rw [cell_of_row w N j cur 5 (0, 0) hg, Array.getElem?_eq_getElem (by omega)]⟩
theorem Row.cell {w : World} {N n k : Nat} {f : Nat → Int} (h : Row w N n k f) (j : Nat) (hj : j < k) : w.cell? ⟨N, j, none⟩ = some (.int .u8 (f j)) := by
  obtain ⟨cur, hg, _, hc⟩ := h
  rw [cell_of_row w N j cur 5 (0, 0) hg]
  exact hc j hj
theorem Row.store {w : World} {N n k : Nat} {f : Nat → Int} (h : Row w N n k f) (hk : k < n) : Row (w.setCell ⟨N, k, none⟩ (.int .u8 (f k))) N n (k + 1) f := by
  obtain ⟨cur, hg, hs, hc⟩ := h
  refine ⟨cur.setIfInBounds k (.int .u8 (f k)), heap_setCell_same w N k cur 5 _ hg, by simpa using hs, ?_⟩
  intro j hj
  by_cases e : j = k
  · subst e
    rw [Array.getElem?_setIfInBounds_self_of_lt (by omega)]
  · rw [Array.getElem?_setIfInBounds_ne (by omega)]
    exact hc j (by omega)
/-- A row that is written anywhere keeps its length; nothing is said of its bytes. -/
theorem Row.below {w w' : World} {N n k : Nat} {f : Nat → Int} (h : Row w N n k f) (hb : w'.heap[N]? = w.heap[N]?) : Row w' N n k f := by
  obtain ⟨cur, hg, hs, hc⟩ := h
  exact ⟨cur, by rw [hb]; exact hg, hs, hc⟩
theorem Row.mono {w : World} {N n k k' : Nat} {f : Nat → Int} (h : Row w N n k f) (hk : k' ≤ k) : Row w N n k' f := by
  obtain ⟨cur, hg, hs, hc⟩ := h
  exact ⟨cur, hg, hs, fun j hj => hc j (by omega)⟩

/-- What a slice that can be read holds: nothing where it is empty. -/
def Holds (w : World) (a : Option Addr) (n : Nat) (f : Nat → Int) : Prop :=
  n = 0 ∨ ∃ x, a = some x ∧ ∀ j, j < n → w.cell? (x.add j) = some (.int .u8 (f j))
theorem Holds.below {w w' : World} {a : Option Addr} {n : Nat} {f : Nat → Int} (h : Holds w a n f) (hb : Below w.heap.size w w') : Holds w' a n f := by
  rcases h with h | ⟨x, hx, hc⟩
  · exact .inl h
  · refine .inr ⟨x, hx, fun j hj => ?_⟩
    have h1 := hc j hj
    rw [hb.cell (World.block_lt_of_cell? w _ h1), h1]

theorem row_made {w w1 : World} {n : Nat} (hown : w1.ownsRow w.heap.size 5 1 (.slice (some ⟨w.heap.size, 0, none⟩) n n) n (madeCells #[.int .u8 0] n).toList) (f : Nat → Int) : Row w1 w.heap.size n 0 f := by
  rcases hown.2 with ⟨hv, _⟩ | ⟨g, c, cur, hv, hbg, hgg, hnc, hcm, hcs, htake⟩
  · cases hv
  · cases hv
    exact ⟨cur, hgg, by omega, fun j hj => by omega⟩

set_option maxHeartbeats 1000000 in
theorem clone_some (x : Addr) (n cap : Nat) (f : Nat → Int) (hb : n ≤ 1048576) (w : World) (hc : ∀ j, j < n → w.cell? (x.add j) = some (.int .u8 (f j))) :
    Calls Try.prog 9 #[.slice (some x) n cap] w fun e w' => e = .returned (.slice (some ⟨w.heap.size, 0, none⟩) n n) ∧ Row w' w.heap.size n n f ∧ Below w.heap.size w w' := by
  obtain ⟨i0, hi, hz0, hz1, hz2⟩ := info_parts Try.info5
  have hnil := fun w => Lib.run_eql_slice_nil (P := Try.prog) w 29 5 (some x) n cap 0 0 Try.underlying29
  go_enter Try.func9, Try.ntmps9
  go_wp2_with (at_make; refine wpList_make_full _ rfl _ _ 29 rfl w.heap.size 5 i0 (.int .u8 0) 1 Try.underlying29 hi hz0 hz1 .i64 .i64 _ _ n rfl rfl rfl rfl ?c1 ?c2 ?c3 ?_)
  case c1 => rw [hz2]; omega
  case c2 => unfold maxLen; omega
  case c3 => exact Nat.le_refl _
  intro w1 hown1 hgrow1
  have hrow1 : Row w1 w.heap.size n 0 f := row_made (by simpa using hown1) f
  have hbel1 : Below w.heap.size w w1 := (Below.refl _ _).grown hgrow1 (Nat.le_refl _) (fun k hk => by cases hk)
  clear hown1 hgrow1
  go_wp2
  go_loopw [4] (fun i wr => ∃ k : Nat, k ≤ n ∧ i = .int .i64 (k : Int) ∧ Row wr w.heap.size n k f ∧ Below w.heap.size w wr) (fun i _ => n - (intOf i).toNat)
  case atStart => exact ⟨0, Nat.zero_le _, rfl, hrow1, hbel1⟩
  case round =>
    obtain ⟨k, hk, rfl, hrow, hbel⟩ := hrel
    by_cases hlt : k < n
    · have h1 := hc k hlt
      have h0 := hc 0 (by omega)
      obtain ⟨b, off, sp⟩ := x
      have hsp : sp = none := by simpa [Addr.add] using World.cell?_spot h0
      subst hsp
      clear h0
      have hcx : wr.cell? ⟨b, off + k, none⟩ = some (.int .u8 (f k)) := by
        rw [Addr.add_lit] at h1
        rw [hbel.cell (p := ⟨b, off + k, none⟩) (World.block_lt_of_cell? w _ h1)]
        exact h1
      obtain ⟨u, hu⟩ := hrow.there k hlt
      have hfr := hrow.free k
      clear h1 hc hrow1 hbel1
      go_wp2
      go_roundw
      case rel => exact ⟨k + 1, by omega, by go_num, hrow.store hlt, hbel.setCell (Nat.le_refl _) _⟩
      case measure => simp [intOf]; omega
    · have e : k = n := by omega
      subst e
      go_wp2
      go_ret
      exact ⟨rfl, hrow, hbel⟩

set_option maxHeartbeats 400000 in
theorem clone_nil (w : World) : Calls Try.prog 9 #[.slice none 0 0] w fun e w' => e = .returned (.slice none 0 0) ∧ Below w.heap.size w w' := by
  have hnil := fun w => Lib.run_eql_slice_nil (P := Try.prog) w 29 5 none 0 0 0 0 Try.underlying29
  go_enter Try.func9, Try.ntmps9
  go_wp2
  go_ret
  exact ⟨rfl, Below.refl _ _⟩

/-- What the shell says of a slice of bytes that came in ('IsRow .u8'). -/
def ByteRow (w : World) (a : Option Addr) (len cap : Nat) (zs : List Int) : Prop :=
  (a = none ∧ len = 0 ∧ cap = 0 ∧ zs = []) ∨
  ∃ x, a = some x ∧ len ≤ cap ∧ cap ≤ maxLen ∧ zs.length = cap ∧ (∀ i, i < zs.length → w.cell? (x.add i) = some (.int .u8 (zs.getD i 0))) ∧ ∀ n ∈ zs, (Lit.int .u8 n).wf = true

theorem ByteRow.holds {w : World} {a : Option Addr} {n cap : Nat} {zs : List Int} (h : ByteRow w a n cap zs) : Holds w a n (fun j => zs.getD j 0) := by
  rcases h with ⟨_, rfl, _⟩ | ⟨x, rfl, hl, _, hz, hc, _⟩
  · exact .inl rfl
  · exact .inr ⟨x, rfl, fun j hj => hc j (by omega)⟩

/-- zzClone of whatever slice: its own bytes, in a block of its own; of an empty one nothing is known but its length. -/
theorem clone_any (a : Option Addr) (n cap : Nat) (zs : List Int) (w w1 : World) (h : ByteRow w a n cap zs) (hb : n ≤ 1048576) (hbel : Below w.heap.size w w1) :
    Calls Try.prog 9 #[.slice a n cap] w1 fun e w' => ∃ a' c', e = .returned (.slice a' n c') ∧ (n = 0 ∨ (a' = some ⟨w1.heap.size, 0, none⟩ ∧ Row w' w1.heap.size n n (fun j => zs.getD j 0))) ∧ Below w1.heap.size w1 w' := by
  rcases h with ⟨rfl, rfl, rfl, _⟩ | ⟨x, rfl, hl, _, hz, hc, _⟩
  · refine (clone_nil w1).mono ?_
    rintro e w' ⟨rfl, hk⟩
    exact ⟨none, 0, rfl, .inl rfl, hk⟩
  · refine (clone_some x n cap (fun j => zs.getD j 0) hb w1 (fun j hj => ?_)).mono ?_
    · have h1 := hc j (by omega)
      rw [hbel.cell (World.block_lt_of_cell? w _ h1), h1]
    · rintro e w' ⟨rfl, hr, hk⟩
      exact ⟨_, _, rfl, .inr ⟨rfl, hr⟩, hk⟩

/-- 'copy' into the row that 'make' has just laid. -/
theorem copy_made (a : Option Addr) (n cap : Nat) (f : Nat → Int) (w w1 : World) (hh : Holds w a n f) (N : Nat) (hN : N = w.heap.size)
    (hown : w1.ownsRow N 5 1 (.slice (some ⟨N, 0, none⟩) n n) n (madeCells #[.int .u8 0] n).toList) (hg : w.grownBy w1 none) :
    ∃ w2, (Builtin.copy_ #[29, 29] 3 #[.slice (some ⟨N, 0, none⟩) n n, .slice a n cap]).run Try.prog w1 = .ok (goInt n) w2 ∧ Row w2 N n n f ∧ Below w.heap.size w w2 := by
  subst hN
  obtain ⟨i0, hi, hz0, hz1, hz2⟩ := info_parts Try.info5
  have hbel : Below w.heap.size w w1 := (Below.refl _ _).grown hg (Nat.le_refl _) (fun k hk => by cases hk)
  rcases hh with rfl | ⟨x, rfl, hc⟩
  · refine ⟨w1, ?_, row_made hown f, hbel⟩
    have hr := run_copy_none (P := Try.prog) w1 29 29 3 5 (some ⟨w.heap.size, 0, none⟩) a 0 0 0 cap Try.underlying29 (by rw [hi]; simp [hz1]) (by simp)
    rw [hr]
    rfl
  · rcases hown.2 with ⟨hv, _⟩ | ⟨g, c, cur, hv, hbg, hgg, hnc, hcm, hcs, htake⟩
    · cases hv
    · cases hv
      obtain ⟨cs, hcs'⟩ : ∃ cs : List Value, cs = (List.range n).map (fun j => Value.int .u8 (f j)) := ⟨_, rfl⟩
      have hl : cs.length = n := by rw [hcs']; simp
      have hget : ∀ j, j < n → cs[j]? = some (.int .u8 (f j)) := by intro j hj; rw [hcs']; simp [hj]
      have hr := run_copy_row (P := Try.prog) w1 29 29 3 5 w.heap.size 0 n n x n cap cur 5 cs Try.underlying29 (by rw [hi]; simp [hz1]) hgg (by rw [hl]; exact (Nat.min_self n).symm)
        (by
          intro j u hu
          have hj : j < n := by have := (List.getElem?_eq_some_iff.1 hu).1; omega
          rw [hget j hj] at hu
          cases hu
          have h1 := hc j hj
          rw [hbel.cell (World.block_lt_of_cell? w _ h1), h1])
        (by omega) (by intro u hu; rw [hcs'] at hu; obtain ⟨_, _, rfl⟩ := List.mem_map.1 hu; rfl)
      refine ⟨_, by rw [hr, hl], ⟨_, setRow_heap w1 _ cur _ 5 _ hgg, by simp; omega, ?_⟩, below_setRow hbel (Nat.le_refl _) _⟩
      intro j hj
      simp only [List.take_zero, List.nil_append, List.getElem?_toArray]
      rw [List.getElem?_append_left (by omega)]
      exact hget j hj

set_option maxHeartbeats 1000000 in
theorem copyValue_any (ak : Option Addr) (nk ck : Nat) (a : Option Addr) (n cap : Nat) (x y : Int) (f : Nat → Int) (hb : n ≤ 1048576) (w : World) (hh : Holds w a n f) :
    Calls Try.prog 11 #[.agg #[.slice ak nk ck, .slice a n cap, .int .i64 x, .int .i64 y]] w fun e w' => ∃ g, e = .returned (.slice (some ⟨g, 0, none⟩) n n) ∧ w.heap.size ≤ g ∧ Row w' g n n f ∧ Below w.heap.size w w' := by
  obtain ⟨i0, hi, hz0, hz1, hz2⟩ := info_parts Try.info5
  go_enter Try.func11, Try.ntmps11
  go_wp2_with (at_make; refine wpList_make_full _ rfl _ _ 29 rfl (w.heap.size + 1) 5 i0 (.int .u8 0) 1 Try.underlying29 hi hz0 hz1 .i64 .i64 _ _ n rfl rfl rfl rfl ?c1 ?c2 ?c3 ?_)
  case c1 => rw [hz2]; omega
  case c2 => unfold maxLen; omega
  case c3 => simp
  intro w1 hown1 hgrow1
  have hh1 : Holds (w.alloc (.cells #[.slice ak nk ck, .slice a n cap, .int .i64 x, .int .i64 y] 35)) a n f := hh.below ((Below.refl _ _).alloc (Nat.le_refl _) _)
  obtain ⟨w2, hcp, hrow2, hbel2⟩ := copy_made a n cap f _ w1 hh1 (w.heap.size + 1) (by simp) hown1 hgrow1
  have hbox : w1.cell? ⟨w.heap.size, 1, none⟩ = some (.slice a n cap) := hgrow1.cell (by simp) (by simp)
  have hbel : Below w.heap.size w w2 := ((Below.refl _ _).alloc (Nat.le_refl _) _).trans (hbel2.mono (by simp))
  clear hown1 hgrow1 hh hh1 hbel2
  go_wp2
  go_ret
  exact ⟨_, rfl, by omega, hrow2, hbel⟩

set_option maxHeartbeats 400000 in
theorem zzcopy_any (ak : Option Addr) (nk ck : Nat) (a : Option Addr) (n cap : Nat) (x y : Int) (f : Nat → Int) (hb : n ≤ 1048576) (w : World) (hh : Holds w a n f) :
    Calls Try.prog 10 #[.slice ak nk ck, .slice a n cap, .int .i64 x, .int .i64 y] w fun e w' => ∃ g, e = .returned (.slice (some ⟨g, 0, none⟩) n n) ∧ w.heap.size ≤ g ∧ Row w' g n n f ∧ Below w.heap.size w w' := by
  go_enter Try.func10, Try.ntmps10
  go_wp2_with (go_at_call 11; refine (copyValue_any ak nk ck a n cap x y f hb w hh).mono ?_; rintro e w' ⟨g, rfl, hg, hr, hk⟩)
  go_ret
  exact ⟨g, rfl, hg, hr, hk⟩

set_option maxHeartbeats 400000 in
theorem zz_yes (a b : Option Addr) (n c m d : Nat) (x y : Int) (h : n + m ≤ 1048576) (w : World) : Calls Try.prog 8 #[.slice a n c, .slice b m d, .int .i64 x, .int .i64 y] w fun e w' => e = .returned (.bool true) ∧ w = w' := by
  go_enter Try.func8, Try.ntmps8
  go_wp2
  go_ret
  exact ⟨rfl, rfl⟩
set_option maxHeartbeats 400000 in
theorem zz_no1 (a b : Option Addr) (n c m d : Nat) (x y : Int) (h : 1048576 < n) (w : World) : Calls Try.prog 8 #[.slice a n c, .slice b m d, .int .i64 x, .int .i64 y] w fun e w' => e = .returned (.bool false) ∧ w = w' := by
  go_enter Try.func8, Try.ntmps8
  go_wp2
  go_ret
  exact ⟨rfl, rfl⟩
set_option maxHeartbeats 400000 in
theorem zz_no2 (a b : Option Addr) (n c m d : Nat) (x y : Int) (h0 : n ≤ 1048576) (h : 1048576 < m) (w : World) : Calls Try.prog 8 #[.slice a n c, .slice b m d, .int .i64 x, .int .i64 y] w fun e w' => e = .returned (.bool false) ∧ w = w' := by
  go_enter Try.func8, Try.ntmps8
  go_wp2
  go_ret
  exact ⟨rfl, rfl⟩
set_option maxHeartbeats 400000 in
theorem zz_no3 (a b : Option Addr) (n c m d : Nat) (x y : Int) (h0 : n ≤ 1048576) (h1 : m ≤ 1048576) (h : 1048576 < n + m) (w : World) : Calls Try.prog 8 #[.slice a n c, .slice b m d, .int .i64 x, .int .i64 y] w fun e w' => e = .returned (.bool false) ∧ w = w' := by
  go_enter Try.func8, Try.ntmps8
  go_wp2
  go_ret
  exact ⟨rfl, rfl⟩
end Go.Proofs.Qxb6002901a
