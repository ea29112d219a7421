/-
  THE WALKS of appendDistance (24) and ZZAppendDistance (16).
-/
import Derived.Test.Qxb6002678aOwn
import Derived.Test.Qxb6002678aPlain
namespace Go.Proofs.Qxb6002678a
open Go.RowKit

/-- The ten cells of 'enc': from place i on they hold the bytes acc. -/
def Arr (w : World) (N i : Nat) (acc : List Nat) : Prop :=
  ∃ cur : Array Value, w.heap[N]? = some (.cells cur 40 (0, 0)) ∧ cur.size = 10 ∧ i + acc.length = 10 ∧ cur.toList.drop i = bv acc

theorem Arr.free {w : World} {N i : Nat} {acc : List Nat} (h : Arr w N i acc) (j : Nat) : w.frozen? ⟨N, j, none⟩ = false := by
  obtain ⟨cur, hg, _⟩ := h
  simp [World.frozen?, hg]
theorem Arr.there {w : World} {N i : Nat} {acc : List Nat} (h : Arr w N i acc) (j : Nat) (hj : j < 10) : ∃ v, w.cell? ⟨N, j, none⟩ = some v := by
  obtain ⟨cur, hg, hs, _⟩ := h
  exact ⟨cur[j]'(by omega), by rw [cell_of_row w N j cur 40 (0, 0) hg, Array.getElem?_eq_getElem (by omega)]⟩
theorem Arr.cells {w : World} {N i : Nat} {acc : List Nat} (h : Arr w N i acc) : ∀ j u, (bv acc)[j]? = some u → w.cell? ((⟨N, i, none⟩ : Addr).add j) = some u := by
  intro j u hu
  obtain ⟨cur, hg, hs, hl, hd⟩ := h
  rw [Addr.add_lit, cell_of_row w N (i + j) cur 40 (0, 0) hg]
  rw [← hd, List.getElem?_drop] at hu
  simpa using hu
theorem Arr.store {w : World} {N k : Nat} {acc : List Nat} (h : Arr w N (k + 1) acc) (x : Nat) : Arr (w.setCell ⟨N, k, none⟩ (.int .u8 (x : Int))) N k (x :: acc) := by
  obtain ⟨cur, hg, hs, hl, hd⟩ := h
  refine ⟨cur.setIfInBounds k (.int .u8 (x : Int)), heap_setCell_same w N k cur 40 _ hg, by simpa using hs, by simp only [List.length_cons]; omega, ?_⟩
  rw [Array.toList_setIfInBounds, List.drop_eq_getElem_cons (by simp; omega)]
  have e1 : (cur.toList.set k (Value.int .u8 (x : Int)))[k]'(by simp; omega) = Value.int .u8 (x : Int) := by simp
  rw [e1, List.drop_set_of_lt (by omega), hd]
  rfl
theorem Arr.start (w : World) (x : Nat) : Arr (w.alloc (.cells #[.int .u8 0, .int .u8 0, .int .u8 0, .int .u8 0, .int .u8 0, .int .u8 0, .int .u8 0, .int .u8 0, .int .u8 0, .int .u8 (x : Int)] 40)) w.heap.size 9 [x] :=
  ⟨_, heap_alloc_new w _, rfl, rfl, rfl⟩

/-- 'enc[i:]'. -/
theorem slice_enc (N i : Nat) (h : i ≤ 9) (w : World) : (Instr.sliceAt 40 (.pointer (some ⟨N, 0, none⟩)) (some (.int .i64 (i : Int))) none none).run Try.prog w = .ok (.slice (some ⟨N, i, none⟩) (10 - i) (10 - i)) w := by
  obtain ⟨i0, hi, hz0, hz1, hz2⟩ := info_parts Try.info5
  have al : Try.prog.arrayLen 40 = 10 := by kernel_rfl
  have el : Try.prog.elem 40 = 5 := by kernel_rfl
  have ht : Try.prog.underlying 40 = some (.array (Try.prog.arrayLen 40) (Try.prog.elem 40)) := by rw [al, el]; exact Try.underlying40
  have hl : (i : Int) ≤ (Try.prog.arrayLen 40 : Nat) := by rw [al]; omega
  rw [run_sliceAt_array_l w 40 ⟨N, 0, none⟩ ht .i64 i (by omega) hl, al, el]
  have hne : ¬ (10 = i) := by omega
  simp [sizeOf, typeInfo, hi, hz1, slicedAt, hne, Addr.add_lit]

theorem Own.below {w wr : World} {base : Nat} {v : Value} {bs : List Nat} (h : Own w base v bs) (hb : Below w.heap.size w wr) : Own wr base v bs := by
  refine ⟨h.1, ?_⟩
  rcases h.2 with hn | ⟨g, cap, cur, hv, hbg, hg, r⟩
  · exact .inl hn
  · exact .inr ⟨g, cap, cur, hv, hbg, by rw [hb.block g (Array.getElem?_eq_some_iff.1 hg).1]; exact hg, r⟩
theorem Kept.ofBelow {w wr : World} (base n : Nat) (hb : Below w.heap.size w wr) (hbase : base ≤ w.heap.size) : Kept base n w wr :=
  ⟨hb.mono hbase, fun b o h _ => hb.cell (p := ⟨b, o, none⟩) h⟩

set_option maxHeartbeats 1000000 in
theorem dist_any (base : Nat) (bs : List Nat) (v : Value) (d : Nat) (hd : d < 18446744073709551616) (w : World) (hown : Own w base v bs) (hbs : bs.length ≤ 1048576) (hbase : base ≤ w.heap.size) :
    Calls Try.prog 24 #[v, .int .u64 (d : Int)] w fun e w' => ∃ v', e = .returned v' ∧ Own w' base v' (bs ++ dist d) ∧ Kept base bs.length w w' := by
  obtain ⟨i0, hi, hz0, hz1, hz2⟩ := info_parts Try.info5
  go_enter Try.func24, Try.ntmps24
  go_wp2
  go_loopw [1, 6] (fun z c wr => ∃ (i d1 : Nat) (acc : List Nat), dist d = dst i d1 acc ∧ d1 * 64 < 128 ^ i ∧ i ≤ 9 ∧ z = .int .u64 (d1 : Int) ∧ c = .int .i64 (i : Int) ∧ Arr wr w.heap.size i acc ∧ Below w.heap.size w wr)
    (fun z _ _ => (intOf z).toNat)
  case atStart =>
    refine ⟨9, d / 128, [d % 128], rfl, by omega, by omega, by go_num, rfl, ?_, (Below.refl _ _).alloc (Nat.le_refl _) _⟩
    rw [dst_first d hd]
    exact Arr.start w _
  case round =>
    obtain ⟨i, d1, acc, he, hb1, hi9, rfl, rfl, harr, hbel⟩ := hrel
    have hsz := hbel.size
    have HE : Hid (dist d = dst i d1 acc) := he
    clear he
    have hlt : d1 < 18446744073709551616 := by
      have : 128 ^ i ≤ 128 ^ 9 := Nat.pow_le_pow_right (by decide) hi9
      omega
    have hN : w.heap.size < wr.heap.size := by
      obtain ⟨cur, hg, _⟩ := harr
      exact (Array.getElem?_eq_some_iff.1 hg).1
    have hlen : i + acc.length = 10 := by obtain ⟨cur, _, _, h, _⟩ := harr; exact h
    by_cases h0 : d1 = 0
    · subst h0
      have hsl := slice_enc w.heap.size i hi9
      go_wp2_with (at_builtin; refine wpList_append_keep _ rfl _ _ 22 rfl base i0 Try.underlying22 hi hz0 hz1 hz2 _ _ rfl (hown.below hbel) ⟨w.heap.size, i, none⟩ (10 - i) (10 - i) acc rfl ?c0 ?c1 ?c2 ?c3 ?_)
      case c0 => omega
      case c1 => exact harr.cells
      case c2 => omega
      case c3 => omega
      intro v' w1 hown' hk' _
      go_wp2
      go_ret
      have := HE.out
      rw [dst_zero] at this
      exact ⟨v', rfl, by rw [this]; exact hown', (Kept.ofBelow base bs.length hbel hbase).trans hk' (Nat.le_refl _)⟩
    · obtain ⟨e, rfl⟩ : ∃ e, d1 = e + 1 := ⟨d1 - 1, by omega⟩
      have hi0 : i ≠ 0 := by
        intro h
        subst h
        simp at hb1
      obtain ⟨k, rfl⟩ : ∃ k, i = k + 1 := ⟨i - 1, by omega⟩
      obtain ⟨u, hu⟩ := harr.there k (by omega)
      have hf := harr.free k
      go_wp2_with fail
      go_roundw
      case rel =>
        refine ⟨k, e / 128, (e % 128 + 128) :: acc, ?_, dst_bound k e hb1, by omega, by go_num, by go_num, ?_, hbel.setCell (Nat.le_refl _) _⟩
        · rw [HE.out, dst_step]
        · have := harr.store (e % 128 + 128)
          rw [← dst_byte e (by omega)] at this
          exact this
      case measure => simp [intOf]; omega

set_option maxHeartbeats 400000 in
theorem zzdist_any (base : Nat) (bs : List Nat) (v : Value) (d : Nat) (hd : d < 18446744073709551616) (w : World) (hown : Own w base v bs) (hbs : bs.length ≤ 1048576) (hbase : base ≤ w.heap.size) :
    Calls Try.prog 16 #[v, .int .u64 (d : Int)] w fun e w' => ∃ v', e = .returned v' ∧ Own w' base v' (bs ++ dist d) ∧ Kept base bs.length w w' := by
  go_enter Try.func16, Try.ntmps16
  go_wp2_with (go_at_call 24; refine (dist_any base bs v d hd w hown hbs hbase).mono ?_; rintro e w' ⟨v', rfl, ho, hk⟩)
  go_ret
  exact ⟨v', rfl, ho, hk⟩
end Go.Proofs.Qxb6002678a
