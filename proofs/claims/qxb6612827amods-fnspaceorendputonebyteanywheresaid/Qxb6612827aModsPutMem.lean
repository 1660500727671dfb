/-
  MORE MEMORY LAWS AND THE PLAIN LAW for 'FnSpaceOrEndPutOneByteAnywhere'.
-/
import Derived.Test.Qxb6612827aModsMem
namespace Go.Proofs.Qxb6612827aMods.Space
open Go.RowKit

/-! ### One byte put in: cuts of a row of the call's own, and a literal of one byte -/
theorem Own.alloc {w : World} {g k cap : Nat} {X : List Int} (h : Own w g k cap X) (o : Obj) : Own (w.alloc o) g k cap X := World.ownsRow.alloc h o

theorem Row.one (w : World) (x : Int) : Row (w.alloc (.cells #[.int .u8 x] 5)) (some ⟨w.heap.size, 0, none⟩) 1 [x] := by
  refine ⟨rfl, .inr ⟨_, rfl, fun i hi => ?_⟩⟩
  obtain rfl : i = 0 := by omega
  simp [Addr.add]

/-- 'text[:j]'. -/
theorem Own.pre {w : World} {g n cap : Nat} {X : List Int} (h : Own w g n cap X) {j : Nat} (hj : j ≤ n) : Row w (some ⟨g, 0, none⟩) j (X.take j) := by
  have hl := h.length
  obtain ⟨_, hc⟩ := h.row
  refine ⟨by simp; omega, ?_⟩
  rcases hc with h0 | ⟨ad, e, hcell⟩
  · exact .inl (by omega)
  · refine .inr ⟨ad, e, fun i hi => ?_⟩
    rw [hcell i (by omega)]
    simp [hi]

/-- 'text[j:]'. -/
theorem Own.post {w : World} {g n cap : Nat} {X : List Int} (h : Own w g n cap X) {j : Nat} (hj : j ≤ n) : Row w (some ⟨g, j, none⟩) (n - j) (X.drop j) := by
  have hl := h.length
  refine ⟨by simp; omega, .inr ⟨_, rfl, fun i hi => ?_⟩⟩
  have e : (⟨g, j, none⟩ : Addr).add i = ⟨g, j + i, none⟩ := by
    unfold Addr.add; split
    · rename_i hz; rw [hz]; rfl
    · rfl
  rw [e, World.ownsRow.cellAt h (j + i) (by omega)]
  simp [List.getD, List.getElem?_eq_getElem (show j + i < X.length by omega)]

/-- The text with one byte put in at place j. -/
def putAt (T : List Int) (j : Nat) (x : Int) : List Int := T.take j ++ [x] ++ T.drop j

theorem length_putAt {T : List Int} {j : Nat} {x : Int} (hj : j ≤ T.length) : (putAt T j x).length = T.length + 1 := by simp [putAt]; omega
theorem soe_put_at {T : List Int} {j : Nat} {x : Int} (hj : j ≤ T.length) : soe (putAt T j x) j = (x == 32) := by
  have h1 : (j == T.length + 1) = false := by simp; omega
  have hl : (T.take j).length = j := by simp; omega
  have h2 : (putAt T j x).getD j 0 = x := by
    unfold putAt
    rw [List.append_assoc]
    simp [hl]
  unfold soe
  rw [length_putAt hj, h1, h2, Bool.false_or]
theorem soe_put_end {T : List Int} {j : Nat} {x : Int} (hj : j ≤ T.length) : soe (putAt T j x) (T.length + 1) = true := soe_end (length_putAt hj)
theorem soe_put_before {T : List Int} {j k : Nat} {x : Int} (hj : j ≤ T.length) (hk : k < j) : soe (putAt T j x) k = soe T k := by
  have h1 : (k == T.length + 1) = false := by simp; omega
  have h2 : (k == T.length) = false := by simp; omega
  have hl : k < (T.take j).length := by simp; omega
  have h3 : (putAt T j x).getD k 0 = T.getD k 0 := by
    unfold putAt
    rw [List.append_assoc]
    simp [List.getElem?_append_left hl, hk]
  unfold soe
  rw [length_putAt hj, h1, h2, h3]
theorem soe_put_behind {T : List Int} {j k : Nat} {x : Int} (hj : j ≤ T.length) (hk : j ≤ k) : soe (putAt T j x) (k + 1) = soe T k := by
  have h1 : (k + 1 == T.length + 1) = (k == T.length) := by rw [Bool.eq_iff_iff]; simp
  have hl : (T.take j ++ [x]).length = j + 1 := by simp; omega
  have h3 : (putAt T j x).getD (k + 1) 0 = T.getD k 0 := by
    unfold putAt
    have hle : (T.take j ++ [x]).length ≤ k + 1 := by omega
    rw [List.getD_eq_getElem?_getD, List.getElem?_append_right hle, hl, List.getElem?_drop, List.getD_eq_getElem?_getD]
    congr 2
    omega
  unfold soe
  rw [length_putAt hj, h1, h3]

/-- 'append(own, src...)' within the capacity, the new length and the new list said by the caller. -/
theorem law_append_to {w : World} {ops : Array Oper} {rest : List Oper} {o : Oper} {a : Act} {Q : Exit → Act → World → Prop} (hgd : o.guard = none) (d s : Operand)
    (ho : o.op = .call { callee := .builtin .append, args := #[d, s], argTypes := #[22, 22] }) (g k cap m c : Nat) (sp : Option Addr)
    (hd : a.eval d = .slice (some ⟨g, 0, Option.none⟩) k cap) (hs : a.eval s = .slice sp m c) (X L : List Int) (hown : Own w g k cap X) (hrow : Row w sp m L) (hnone : sp = Option.none → c = 0)
    (r : Nat) (hr : k + m = r) (Y : List Int) (hY : X ++ L = Y) (hfit : r ≤ cap)
    (h : ∀ w', Own w' g r cap Y → w.grownBy w' (some g) → wpList Trym.prog ops Q rest (a.put o.dst (.slice (some ⟨g, 0, Option.none⟩) r cap)) w') : wpList Trym.prog ops Q (o :: rest) a w := by
  subst hr; subst hY
  exact law_append hgd d s ho g k cap m c sp hd hs X L hown hrow hnone hfit h

end Go.Proofs.Qxb6612827aMods.Space
