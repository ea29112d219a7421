/-
  THE CALL's OWN BYTES: 'Own' (a slice of bytes among the call's own blocks), 'Kept' (what an append to it leaves as it was), 'Reads' (a slice that is read); append's law with 'Kept' behind it.
-/
import Derived.Test.Qxb6002678aRows
import Derived.WalkKit
import Derived.WalkSpells
import Derived.WalkLawsBesides
namespace Go.Proofs.Qxb6002678a
open Go.RowKit

theorem Try.info5 : (Try.prog.info? 5).map (fun i => (i.zero, i.size, i.bytes)) = some (some (.int .u8 0), 1, 1) := by kernel_rfl

/-- Bytes as values. -/
def bv (bs : List Nat) : List Value := bs.map fun (b : Nat) => Value.int .u8 (b : Int)
theorem bv_length (bs : List Nat) : (bv bs).length = bs.length := by simp [bv]
theorem bv_append (cs bs : List Nat) : bv (cs ++ bs) = bv cs ++ bv bs := by simp [bv]
theorem bv_get (bs : List Nat) (j : Nat) (h : j < bs.length) : (bv bs)[j]? = some (Value.int .u8 ((bs.getD j 0 : Nat) : Int)) := by
  simp [bv, List.getElem?_map, List.getElem?_eq_getElem h, List.getD]
theorem bv_oneCell (bs : List Nat) : ∀ u ∈ bv bs, u.oneCell' = true := by
  intro u hu
  obtain ⟨_, _, rfl⟩ := List.mem_map.1 hu
  rfl

/-- The slice v of bytes owns the bytes bs, its row from block 'base' on. -/
def Own (w : World) (base : Nat) (v : Value) (bs : List Nat) : Prop := w.ownsRow base 5 1 v bs.length (bv bs)

/-- Below block 'base' all is as it was; and of every block that was there the cells ahead of place n. -/
structure Kept (base n : Nat) (w w' : World) : Prop where
  below : Below base w w'
  cell : ∀ b o, b < w.heap.size → o < n → w'.cell? ⟨b, o, none⟩ = w.cell? ⟨b, o, none⟩

theorem Kept.refl (base n : Nat) (w : World) : Kept base n w w := ⟨Below.refl _ _, fun _ _ _ _ => rfl⟩
theorem Kept.trans {base n m : Nat} {a b c : World} (h : Kept base n a b) (k : Kept base m b c) (hm : n ≤ m) : Kept base n a c :=
  ⟨h.below.trans k.below, fun i o hi ho => (k.cell i o (Nat.lt_of_lt_of_le hi h.below.size) (by omega)).trans (h.cell i o hi ho)⟩
theorem Kept.mono {base n m : Nat} {a b : World} (h : Kept base m a b) (hm : n ≤ m) : Kept base n a b := ⟨h.below, fun i o hi ho => h.cell i o hi (by omega)⟩
theorem Kept.alloc {base n : Nat} {a w : World} (h : Kept base n a w) (hb : base ≤ w.heap.size) (o : Obj) : Kept base n a (w.alloc o) :=
  ⟨h.below.alloc hb o, fun i j hi hj => by
    rw [← h.cell i j hi hj]
    exact World.cell?_of_block (w := w) (Below.heap_alloc _ _ _ (Nat.lt_of_lt_of_le hi h.below.size))⟩
theorem Kept.drew {base n : Nat} {a w : World} (h : Kept base n a w) : Kept base n a w.drew := ⟨h.below.drew, h.cell⟩

theorem own_nil (w : World) (base : Nat) : Own w base (.slice none 0 0) [] := World.ownsRow_nil w base 5 1

theorem Own.alloc {w : World} {base : Nat} {v : Value} {bs : List Nat} (h : Own w base v bs) (o : Obj) : Own (w.alloc o) base v bs := World.ownsRow.alloc h o
theorem Own.drew {w : World} {base : Nat} {v : Value} {bs : List Nat} (h : Own w base v bs) : Own w.drew base v bs := h
/-- The one new byte that 'append(b, x)' lays first. -/
theorem one_new (w : World) (c : Nat) : ∀ j u, (bv [c])[j]? = some u → (w.alloc (.cells #[.int .u8 (c : Int)] 5)).cell? ((⟨w.heap.size, 0, none⟩ : Addr).add j) = some u := by
  intro j u hu
  match j, hu with
  | 0, hu => simp [bv] at hu; subst hu; simp [Addr.add]

theorem Own.form {w : World} {base : Nat} {v : Value} {bs : List Nat} (h : Own w base v bs) : ∃ a cap, v = .slice a bs.length cap := by
  rcases h.2 with ⟨rfl, hn⟩ | ⟨g, cap, cur, rfl, _⟩
  · exact ⟨none, 0, by rw [hn]⟩
  · exact ⟨_, _, rfl⟩
/-- What is known of an owned slice that is not empty. -/
theorem Own.shape {w : World} {base : Nat} {v : Value} {bs : List Nat} (h : Own w base v bs) (hp : 1 ≤ bs.length) :
    ∃ g cap, v = .slice (some ⟨g, 0, none⟩) bs.length cap ∧ base ≤ g ∧ g < w.heap.size ∧ bs.length ≤ cap ∧ cap ≤ maxLen ∧
      (∀ j, j < bs.length → w.cell? ⟨g, j, none⟩ = some (.int .u8 ((bs.getD j 0 : Nat) : Int))) ∧ ∀ j, w.frozen? ⟨g, j, none⟩ = false := by
  have h0 := h
  rcases h.2 with ⟨_, hn⟩ | ⟨g, cap, cur, rfl, hb, hg, hnc, hcm, _, _⟩
  · omega
  · refine ⟨g, cap, rfl, hb, (Array.getElem?_eq_some_iff.1 hg).1, hnc, hcm, fun j hj => ?_, fun j => World.ownsRow.frozenAt h0 j⟩
    rw [World.ownsRow.cellAt h0 j (by omega), bv_get bs j hj]

theorem bv_set (bs : List Nat) (j x : Nat) : (bv bs).set j (.int .u8 (x : Int)) = bv (bs.set j x) := by simp [bv, List.map_set]
/-- A byte of an owned slice is written. -/
theorem Own.set {w : World} {base g cap n : Nat} {bs : List Nat} (h : Own w base (.slice (some ⟨g, 0, none⟩) n cap) bs) (j x : Nat) (m : Nat) (hm : m ≤ j) :
    Own (w.setCell ⟨g, j, none⟩ (.int .u8 (x : Int))) base (.slice (some ⟨g, 0, none⟩) n cap) (bs.set j x) ∧ Kept base m w (w.setCell ⟨g, j, none⟩ (.int .u8 (x : Int))) := by
  have hn : n = bs.length ∧ base ≤ g := by
    rcases h.2 with ⟨hv, _⟩ | ⟨g', c', cur, hv, hb, _⟩
    · cases hv
    · cases hv; exact ⟨rfl, hb⟩
  obtain ⟨rfl, hbg⟩ := hn
  have st := World.ownsRow.stored h j (.int .u8 (x : Int))
  refine ⟨?_, (Below.refl _ _).setCell hbg _, fun b o hb ho => ?_⟩
  · unfold Own
    rw [List.length_set, ← bv_set]
    exact st.1
  · exact World.cell?_setCell_other _ _ _ _ (fun e => by cases e; omega)

/-- The same behind a draw, the new block's number known by another name. -/
theorem one_new' (w : World) (N : Nat) (hN : N = w.heap.size) (c : Nat) (r : Int) (hr : r = (c : Int)) : ∀ j u, (bv [c])[j]? = some u → (w.alloc (.cells #[.int .u8 r] 5)).drew.cell? ((⟨N, 0, none⟩ : Addr).add j) = some u := by
  subst hN
  subst hr
  exact one_new w c
theorem size_setCell (w : World) (a : Addr) (v : Value) : (w.setCell a v).heap.size = w.heap.size := by simp [World.setCell]

section
variable {P : Program} (w : World)

/-- append onto a row of the call's own, and what it leaves as it was. -/
theorem run_append_keep (base : Nat) (t ty e : TypeId) (i : TypeInfo) (z : Value) (bytes : Nat) (ht : P.underlying t = some (.slice e)) (hi : P.info? e = some i) (hz : i.zero = some z)
    (hsize : i.size = 1) (hby : i.bytes = bytes) (hzs : z.cells.size = 1)
    (v : Value) (n : Nat) (xs : List Value) (hown : w.ownsRow base e 1 v n xs)
    (a : Addr) (m c : Nat) (news : List Value) (hl : news.length = m * 1) (hnews : ∀ j u, news[j]? = some u → w.cell? (a.add j) = some u) (h1 : ∀ u ∈ news, u.oneCell' = true)
    (h63 : n + m ≤ maxLen) (hbytes : (n + m) * bytes ≤ 140737488355328) (hbase : base ≤ w.heap.size) :
    ∃ v' w', (Builtin.append_ #[t, t] ty #[v, .slice (some a) m c]).run P w = .ok v' w' ∧ w'.ownsRow base e 1 v' (n + m) (xs ++ news) ∧ Kept base n w w' ∧
      (v' = .slice none 0 0 ↔ v = .slice none 0 0 ∧ m = 0) := by
  obtain ⟨v', w', hr, ho, hg, hn⟩ := run_append_own (P := P) w base t ty e i z 1 bytes ht hi hz hsize hby hzs (by decide) v n xs hown a m c news hl hnews h1 h63 hbytes hbase
  refine ⟨v', w', hr, ho, ⟨(Below.refl base w).grown hg hbase (fun k hk => (hown.lt k hk).1), ?_⟩, hn⟩
  intro b o hb hon
  by_cases hbr : some b ≠ v.ownBlock
  · exact World.cell?_of_block (w := w) (hg.block b hb hbr)
  · have hbr' : v.ownBlock = some b := (Decidable.not_not.1 hbr).symm
    rcases hown.2 with ⟨rfl, _⟩ | ⟨g, cap, cur, rfl, hbg, hgg, hnc, hcm, hcs, htake⟩
    · simp [Value.ownBlock] at hbr'
    · simp [Value.ownBlock] at hbr'
      subst hbr'
      by_cases hroom : n + m ≤ cap
      · have hfit : n * i.size + news.length ≤ cur.size := by rw [hl, hcs, hsize]; omega
        have hr2 := run_append_room (P := P) w t ty e i ht hi g n cap cur hgg a m c news (by rw [hsize]; exact hl) hnews h1 hroom hfit
        rw [hr] at hr2
        cases hr2
        rw [cell_setRow_same w g o cur _ e _ hgg, cell_of_row w g o cur e _ hgg, hsize]
        simp only [Nat.mul_one]
        rw [List.getElem?_toArray, List.append_assoc, List.getElem?_append_left (by simp; omega), List.getElem?_take, if_pos hon, Array.getElem?_toList]
      · have holds : ∀ j u, xs[j]? = some u → w.cell? ((⟨g, 0, none⟩ : Addr).add j) = some u := hown.cells (g := g) rfl
        have hsmall : n + m ≤ 9223372036854775807 := by simp only [maxLen] at h63; omega
        have hr2 := run_append_grow (P := P) w t ty e i z ht hi hz ⟨g, 0, none⟩ n cap xs (by rw [hsize]; exact hown.1) holds a m c news (by rw [hsize]; exact hl) hnews (by omega) (by omega) (growslice_fits (by omega) (by rw [hby]; exact hbytes))
        rw [hr] at hr2
        cases hr2
        exact World.cell?_of_block (w := w) (Below.heap_alloc w.drew _ g hb)

/-- The same as a step of the walk. -/
theorem wpList_append_keep {ops : Array Oper} {rest : List Oper} {o : Oper} {a : Act} {Q : Exit → Act → World → Prop} (hgd : o.guard = none) (s x : Operand) (t : TypeId)
    (ho : o.op = .call { callee := .builtin .append, args := #[s, x], argTypes := #[t, t] })
    (base : Nat) (i : TypeInfo) (ht : P.underlying t = some (.slice 5)) (hi : P.info? 5 = some i) (hz : i.zero = some (.int .u8 0))
    (hsize : i.size = 1) (hby : i.bytes = 1)
    (v : Value) (bs : List Nat) (hs : a.eval s = v) (hown : Own w base v bs)
    (ad : Addr) (m c : Nat) (news : List Nat) (hx : a.eval x = .slice (some ad) m c) (hl : news.length = m) (hnews : ∀ j u, (bv news)[j]? = some u → w.cell? (ad.add j) = some u)
    (hbytes : bs.length + m ≤ 140737488355328) (hbase : base ≤ w.heap.size)
    (h : ∀ v' w', Own w' base v' (bs ++ news) → Kept base bs.length w w' → (v' = .slice none 0 0 ↔ v = .slice none 0 0 ∧ m = 0) → wpList P ops Q rest (a.put o.dst v') w') : wpList P ops Q (o :: rest) a w := by
  refine wpList_plain hgd fun K hK => ?_
  obtain ⟨v', w', hr, h2, h3, h4⟩ := run_append_keep (P := P) w base t o.type 5 i (.int .u8 0) 1 ht hi hz hsize hby rfl v bs.length (bv bs) hown ad m c (bv news) (by rw [bv_length]; omega) hnews (bv_oneCell _) (by unfold maxLen; omega) (by omega) hbase
  unfold Oper.wp execOp
  simp only [ho, resolve, invoke, builtin, Sem.run_bind, Sem.run_pure, Result.andThen_ok, List.map_toArray, List.map_cons, List.map_nil, hs, hx, hr]
  refine hK _ _ (h v' w' ?_ h3 h4)
  unfold Own
  rw [List.length_append, hl, bv_append]
  exact h2
end
end Go.Proofs.Qxb6002678a
