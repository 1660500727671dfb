/-
  THE CALLEES' CONTRACTS for the two laws on before: (*textCursor).before (17), ZZcallBefore (14), ZZnewTextCursor (13); and the plain law: 'bef' is a strict order of places.
-/
import Derived.Test.Qxb6612827aModsProg
import Derived.WalkKit
import Derived.ProofKit
namespace Go.Proofs.Qxb6612827aMods.Before
open Go.RowKit

/-- What before answers: is the place (l, c) before the place (l2, c2)? -/
def bef (l c l2 c2 : Int) : Bool := decide (l < l2) || (l == l2 && decide (c < c2))

/-- At block 'b' lies a cursor at line l, column c. -/
def Cur (w : World) (b : Nat) (l c : Int) : Prop := w.cell? ⟨b, 3, none⟩ = some (.int .i64 l) ∧ w.cell? ⟨b, 4, none⟩ = some (.int .i64 c)

/-- Blocks have been laid behind; nothing that was there has turned. -/
def Ext (w w' : World) : Prop := Grown w w' ∧ ∀ a : Addr, a.block < w.heap.size → w'.cell? a = w.cell? a

theorem Ext.refl (w : World) : Ext w w := ⟨Grown.refl _, fun _ _ => rfl⟩

theorem Ext.trans {a b c : World} (h : Ext a b) (k : Ext b c) : Ext a c :=
  ⟨⟨World.keptBut_trans h.1.1 k.1.1, fun x => (k.1.2.1 x).trans (h.1.2.1 x), Nat.le_trans h.1.2.2 k.1.2.2⟩,
    fun x hx => (k.2 x (Nat.lt_of_lt_of_le hx h.1.2.2)).trans (h.2 x hx)⟩

theorem Cur.ext {w w' : World} {b : Nat} {l c : Int} (h : Cur w b l c) (k : Ext w w') : Cur w' b l c :=
  ⟨(k.2 _ (World.block_lt_of_cell? w _ h.1)).trans h.1, (k.2 _ (World.block_lt_of_cell? w _ h.2)).trans h.2⟩

theorem ret_bool {a b : Bool} (h : a = b) : Ending.returned (.bool a) = .returned (.bool b) := by rw [h]

theorem f17 (w : World) (b : Nat) (l c l2 c2 : Int) (h : Cur w b l c) :
    Calls Trym.prog 17 #[.pointer (some ⟨b, 0, none⟩), .int .i64 l2, .int .i64 c2] w fun e w' => e = .returned (.bool (bef l c l2 c2)) ∧ w' = w := by
  obtain ⟨hl, hc⟩ := h
  go_enter Trym.func17, Trym.ntmps17
  go_wp2
  all_goals
    go_ret
    exact ⟨ret_bool (by rw [Bool.eq_iff_iff]; simp [bef]; omega), rfl⟩

theorem f14 (w : World) (b : Nat) (l c l2 c2 : Int) (h : Cur w b l c) :
    Calls Trym.prog 14 #[.pointer (some ⟨b, 0, none⟩), .int .i64 l2, .int .i64 c2] w fun e w' => e = .returned (.bool (bef l c l2 c2)) ∧ w' = w := by
  go_enter Trym.func14, Trym.ntmps14
  go_wp2_with fail
  refine (f17 _ b l c l2 c2 h).mono ?_
  rintro e w' ⟨rfl, rfl⟩
  go_wp2
  go_ret
  exact ⟨rfl, rfl⟩

theorem ext_alloc (w : World) (cs : Array Value) (t : TypeId) : Ext w (w.alloc (.cells cs t)) :=
  ⟨(Grown.refl _).alloc _ _, fun a ha => World.cell?_of_block (Below.heap_alloc w _ a.block ha)⟩

theorem f13 (w : World) (l c : Int) :
    Calls Trym.prog 13 #[.int .i64 l, .int .i64 c] w fun e w' => (∃ b, e = .returned (.pointer (some ⟨b, 0, none⟩)) ∧ Cur w' b l c) ∧ Ext w w' := by
  go_enter Trym.func13, Trym.ntmps13
  go_wp2
  go_ret
  refine ⟨⟨w.heap.size, rfl, ?_, ?_⟩, ext_alloc _ _ _⟩
  · simp
  · simp

end Go.Proofs.Qxb6612827aMods.Before
