/-
  MEMORY LAWS for the two laws on spaceOrEnd: slices of bytes that the call makes, copies into, appends to. 'Row' (Space): a slice value reads as a list of bytes. 'Own': the call's own row at a block's head, with its capacity.
-/
import Derived.Test.Qxb6612827aModsSpace
import Derived.Laws.CopyOwn
namespace Go.Proofs.Qxb6612827aMods.Space
open Go.RowKit

/-- The call's own row at the head of block 'g': k elements 'X', room for 'cap'. -/
def Own (w : World) (g k cap : Nat) (X : List Int) : Prop := w.ownsRow 0 5 1 (.slice (some ⟨g, 0, none⟩) k cap) k (X.map (Value.int .u8))

theorem info5 : (Trym.prog.info? 5).map (fun i => (i.zero, i.size, i.bytes)) = some (some (.int .u8 0), 1, 1) := by kernel_rfl
theorem size5 : (Trym.prog.info? 5).map (·.size) = some 1 := by kernel_rfl

/-- A row that was there reads on, where another block is written. -/
theorem Row.grown {w w' : World} {ao : Option Addr} {n : Nat} {L : List Int} {row : Option Nat} (h : Row w ao n L) (hg : w.grownBy w' row) (hne : ∀ ad, ao = some ad → some ad.block ≠ row) : Row w' ao n L := by
  obtain ⟨hl, hc⟩ := h
  refine ⟨hl, ?_⟩
  rcases hc with h0 | ⟨ad, rfl, hcell⟩
  · exact .inl h0
  refine .inr ⟨ad, rfl, fun i hi => ?_⟩
  have h1 := hcell i hi
  have hb : (ad.add i).block = ad.block := by unfold Addr.add; split <;> rfl
  have hlt := World.block_lt_of_cell? w _ h1
  rw [← h1]
  exact World.cell?_of_block (hg.block _ hlt (by rw [hb]; exact hne ad rfl))

/-- A row that was there when the call began reads on, whatever the call has made since. -/
theorem Row.below {w w' : World} {ao : Option Addr} {n : Nat} {L : List Int} (h : Row w ao n L) (hb : Below w.heap.size w w') : Row w' ao n L := by
  obtain ⟨hl, hc⟩ := h
  refine ⟨hl, ?_⟩
  rcases hc with h0 | ⟨ad, rfl, hcell⟩
  · exact .inl h0
  refine .inr ⟨ad, rfl, fun i hi => ?_⟩
  have h1 := hcell i hi
  rw [← h1]
  exact hb.cell (World.block_lt_of_cell? w _ h1)

theorem Row.nil (w : World) (ao : Option Addr) : Row w ao 0 [] := ⟨rfl, .inl rfl⟩

theorem Own.grown {w w' : World} {g k cap : Nat} {X : List Int} {row : Option Nat} (h : Own w g k cap X) (hg : w.grownBy w' row) (hne : some g ≠ row) : Own w' g k cap X :=
  World.ownsRow.kept h hg (.inr hne)

theorem Own.lt {w : World} {g k cap : Nat} {X : List Int} (h : Own w g k cap X) : g < w.heap.size := (World.ownsRow.lt h g rfl).2

theorem Own.length {w : World} {g k cap : Nat} {X : List Int} (h : Own w g k cap X) : X.length = k := by
  have := h.1; simpa using this

theorem Own.row {w : World} {g k cap : Nat} {X : List Int} (h : Own w g k cap X) : Row w (some ⟨g, 0, none⟩) k X := by
  have hl := h.length
  refine ⟨hl, .inr ⟨_, rfl, fun i hi => ?_⟩⟩
  have e : (⟨g, 0, none⟩ : Addr).add i = ⟨g, i, none⟩ := by
    unfold Addr.add; split
    · rename_i hz; rw [hz]
    · simp
  rw [e, World.ownsRow.cellAt h i (by omega)]
  simp [List.getD, List.getElem?_eq_getElem (show i < X.length by omega)]

theorem Row.news {w : World} {ad : Addr} {n : Nat} {L : List Int} (h : Row w (some ad) n L) (j : Nat) (u : Value) (hu : (L.map (Value.int .u8))[j]? = some u) : w.cell? (ad.add j) = some u := by
  obtain ⟨hl, hc⟩ := h
  have hj : j < L.length := by
    have := (List.getElem?_eq_some_iff.1 hu).1; simpa using this
  rcases hc with h0 | ⟨ad', e, hcell⟩
  · omega
  · obtain rfl : ad = ad' := by simpa using e
    rw [hcell j (by omega)]
    simp only [List.getElem?_map, List.getElem?_eq_getElem hj, Option.map_some, Option.some.injEq] at hu
    rw [← hu]
    simp [List.getD, List.getElem?_eq_getElem hj]

/-- 'make([]byte, n)'. -/
theorem law_make {w : World} {ops : Array Oper} {rest : List Oper} {o : Oper} {a : Act} {Q : Exit → Act → World → Prop} (hg : o.guard = none) (l : Operand)
    (hop : o.op = .makeSlice 22 l l) (n : Nat) (hl : a.eval l = .int .i64 (n : Int)) (hn : n ≤ 2000000)
    (hK : ∀ w', Own w' w.heap.size n n (List.replicate n 0) → w.grownBy w' Option.none → wpList Trym.prog ops Q rest (a.put o.dst (.slice (some ⟨w.heap.size, 0, Option.none⟩) n n)) w') :
    wpList Trym.prog ops Q (o :: rest) a w := by
  obtain ⟨i, hi, hz, hs, hb⟩ := info_parts info5
  refine wpList_make_full w hg l l 22 hop 0 5 i _ 1 Trym.underlying22 hi hz hs .i64 .i64 _ _ n hl hl rfl rfl (by rw [hb]; omega) (by unfold maxLen; omega) (Nat.zero_le _) fun w' hown hgr => ?_
  refine hK w' ?_ hgr
  unfold Own
  have e : (madeCells (Value.int .u8 0).cells (n * 1)).toList = (List.replicate n (0 : Int)).map (Value.int .u8) := by
    rw [Nat.mul_one, List.map_replicate]
    exact toList_madeCells_one _ n
  rw [← e]
  exact hown

/-- 'make([]byte, 0, n)'. -/
theorem law_make0 {w : World} {ops : Array Oper} {rest : List Oper} {o : Oper} {a : Act} {Q : Exit → Act → World → Prop} (hg : o.guard = none) (l c : Operand)
    (hop : o.op = .makeSlice 22 l c) (C : Int) (n : Nat) (hl : a.eval l = .int .i64 0) (hc : a.eval c = .int .i64 C) (hC : C = (n : Int)) (hn : n ≤ 2000000)
    (hK : ∀ w', Own w' w.heap.size 0 n [] → w.grownBy w' Option.none → wpList Trym.prog ops Q rest (a.put o.dst (.slice (some ⟨w.heap.size, 0, Option.none⟩) 0 n)) w') :
    wpList Trym.prog ops Q (o :: rest) a w := by
  obtain ⟨i, hi, hz, hs, hb⟩ := info_parts info5
  refine wpList_make_own w hg l c 22 hop 0 5 i _ 1 Trym.underlying22 hi hz hs .i64 .i64 C n hl hc hC (by rw [hb]; omega) (by unfold maxLen; omega) (Nat.zero_le _) fun w' hown hgr => ?_
  exact hK w' hown hgr

/-- 'copy(zzc, src)', zzc just made at src's length. -/
theorem law_copy {w : World} {ops : Array Oper} {rest : List Oper} {o : Oper} {a : Act} {Q : Exit → Act → World → Prop} (hgd : o.guard = none) (d s : Operand)
    (ho : o.op = .call { callee := .builtin .copy, args := #[d, s], argTypes := #[22, 22] }) (g n : Nat) (sp : Option Addr) (sCap : Nat)
    (hd : a.eval d = .slice (some ⟨g, 0, Option.none⟩) n n) (hs : a.eval s = .slice sp n sCap) (Z L : List Int) (hown : Own w g n n Z) (hrow : Row w sp n L)
    (h : ∀ w' v, Own w' g n n L → w.grownBy w' (some g) → wpList Trym.prog ops Q rest (a.put o.dst v) w') : wpList Trym.prog ops Q (o :: rest) a w := by
  obtain ⟨hzl, hown2⟩ := hown
  rcases hown2 with ⟨e, _⟩ | ⟨g', cap', cur, e, _, hheap, _, hm, hsz, htk⟩
  · simp at e
  · simp only [Value.slice.injEq, Option.some.injEq, Addr.mk.injEq, and_true, true_and] at e
    obtain ⟨rfl, rfl⟩ := e
    have hll : L.length = n := hrow.1
    by_cases h0 : n = 0
    · subst h0
      refine wpList_copy_nothing hgd d s 22 22 ho 5 Trym.underlying22 size5 _ _ _ _ _ _ hd hs (by simp) ?_
      obtain rfl : L = [] := List.eq_nil_of_length_eq_zero hll
      refine h w _ ⟨rfl, .inr ⟨g, 0, cur, rfl, Nat.zero_le _, hheap, Nat.le_refl _, hm, hsz, by simp⟩⟩ (World.grownBy.refl _ _)
    · obtain ⟨ad, rfl, hcell⟩ := hrow.2.resolve_left h0
      refine wpList_copy_own hgd d s 22 22 ho 5 Trym.underlying22 size5 g 0 n n ad n sCap hd hs cur 5 hheap (L.map (Value.int .u8)) (by simp [hll]) (fun j v hv => hrow.news j v hv) (by simp [hll, hsz]) (ints_oneCell .u8 L) ?_
      have hlt : g < w.heap.size := (Array.getElem?_eq_some_iff.1 hheap).1
      have hrw : (cur.toList.take 0 ++ (L.map (Value.int .u8) ++ cur.toList.drop (0 + (L.map (Value.int .u8)).length))).toArray = (L.map (Value.int .u8)).toArray := by
        congr 1
        have : cur.toList.drop (0 + (L.map (Value.int .u8)).length) = [] := by
          apply List.drop_eq_nil_of_le; simp [hll, hsz]
        rw [this]; simp
      rw [hrw]
      refine h _ _ ⟨by simp [hll], .inr ⟨g, n, (L.map (Value.int .u8)).toArray, rfl, Nat.zero_le _, setRow_heap w g _ _ 5 _ hheap, Nat.le_refl _, hm, by simp [hll], List.take_of_length_le (by simp [hll])⟩⟩
        ⟨rfl, rfl, rfl, by simp [World.setRow], fun k _ hne => setRow_other w g k _ (fun e => hne (by rw [e]))⟩

/-- 'append(own, src...)' within the capacity. -/
theorem law_append {w : World} {ops : Array Oper} {rest : List Oper} {o : Oper} {a : Act} {Q : Exit → Act → World → Prop} (hgd : o.guard = none) (d s : Operand)
    (ho : o.op = .call { callee := .builtin .append, args := #[d, s], argTypes := #[22, 22] }) (g k cap m c : Nat) (sp : Option Addr)
    (hd : a.eval d = .slice (some ⟨g, 0, Option.none⟩) k cap) (hs : a.eval s = .slice sp m c) (X L : List Int) (hown : Own w g k cap X) (hrow : Row w sp m L) (hnone : sp = Option.none → c = 0) (hfit : k + m ≤ cap)
    (h : ∀ w', Own w' g (k + m) cap (X ++ L) → w.grownBy w' (some g) → wpList Trym.prog ops Q rest (a.put o.dst (.slice (some ⟨g, 0, Option.none⟩) (k + m) cap)) w') : wpList Trym.prog ops Q (o :: rest) a w := by
  obtain ⟨i, hi, hz, hsz, hb⟩ := info_parts info5
  refine wpList_append_fits_any w hgd d s 22 ho 0 5 i 1 Trym.underlying22 hi hsz g k cap (X.map (Value.int .u8)) hd hown sp m c (L.map (Value.int .u8)) hs (by simp [hrow.1]) ?_ ?_ (ints_oneCell .u8 L) hfit fun w' ho' hg' => ?_
  · intro e
    refine ⟨?_, hnone e⟩
    rcases hrow.2 with h0 | ⟨ad, e', _⟩
    · exact h0
    · rw [e] at e'; cases e'
  · rintro ad rfl j u hu
    exact hrow.news j u hu
  · refine h w' ?_ hg'
    unfold Own
    rw [List.map_append]
    exact ho'

/-! ### The plain law: what spaceOrEnd answers over joined lists -/
theorem soe_left {A B : List Int} {k : Nat} (h : k < A.length) : soe (A ++ B) k = soe A k := by
  have h1 : (k == A.length + B.length) = false := by simp; omega
  have h2 : (k == A.length) = false := by simp; omega
  have h3 : (A ++ B).getD k 0 = A.getD k 0 := by simp [List.getElem?_append_left h]
  unfold soe
  rw [List.length_append, h1, h2, h3]
theorem soe_right {A B : List Int} {k : Nat} (h : A.length ≤ k) : soe (A ++ B) k = soe B (k - A.length) := by
  have h1 : (k == A.length + B.length) = (k - A.length == B.length) := by
    rw [Bool.eq_iff_iff]; simp; omega
  have h3 : (A ++ B).getD k 0 = B.getD (k - A.length) 0 := by simp [List.getElem?_append_right h]
  unfold soe
  rw [List.length_append, h1, h3]
theorem soe_end {A : List Int} {n : Nat} (h : A.length = n) : soe A n = true := by simp [soe, h]

/-- A slice that came in, up to its length. -/
theorem row_of {w : World} {x : Addr} {len cap : Nat} {zs : List Int} (hl : len ≤ cap) (hz : zs.length = cap) (hcell : ∀ i, i < zs.length → w.cell? (x.add i) = some (.int .u8 (zs.getD i 0))) : Row w (some x) len (zs.take len) := by
  refine ⟨by simp; omega, .inr ⟨x, rfl, fun i hi => ?_⟩⟩
  rw [hcell i (by omega)]
  simp [hi]

end Go.Proofs.Qxb6612827aMods.Space
