/-
  THE WALKS of 'FnSpaceOrEndCutAtAnyPlace' (4), one theorem a way: too long; k outside; and, inside, each of the two slices nil or not.
-/
import Derived.Test.Qxb6612827aModsMem
import Derived.WalkSpells
namespace Go.Proofs.Qxb6612827aMods.CutWalks
open Go.RowKit
open Space

theorem walk_far (a0 : Option Addr) (len0 cap0 : Nat) (a1 : Option Addr) (len1 cap1 : Nat) (a2 : Int) (w : World) (m0 : len0 ≤ maxLen) (m1 : len1 ≤ maxLen) (h : ¬ len0 + len1 ≤ 1048576) :
    Calls Trym.prog 4 #[.slice a0 len0 cap0, .slice a1 len1 cap1, .int .i64 a2] w fun e w' => e = .returned (.bool true) ∧ Below w.heap.size w w' := by
  go_enter Trym.func4, Trym.ntmps4
  go_wp2_with fail
  refine (f10_no _ _ _ _ _ _ _ _ m0 m1 h).mono ?_
  rintro e w' ⟨rfl, rfl⟩
  go_wp2
  go_ret
  exact ⟨rfl, Below.refl _ _⟩

theorem walk_out (a0 : Option Addr) (len0 cap0 : Nat) (a1 : Option Addr) (len1 cap1 : Nat) (a2 : Int) (w : World) (h : len0 + len1 ≤ 1048576) (hk : a2 < 0 ∨ (len0 : Int) + len1 < a2) :
    Calls Trym.prog 4 #[.slice a0 len0 cap0, .slice a1 len1 cap1, .int .i64 a2] w fun e w' => e = .returned (.bool true) ∧ Below w.heap.size w w' := by
  rcases hk with hk | hk
  · go_enter Trym.func4, Trym.ntmps4
    go_wp2_with fail
    refine (f10_yes _ _ _ _ _ _ _ _ h).mono ?_
    rintro e w' ⟨rfl, rfl⟩
    go_wp2
    go_ret
    exact ⟨rfl, Below.refl _ _⟩
  · have hk0 : ¬ a2 < 0 := by omega
    go_enter Trym.func4, Trym.ntmps4
    go_wp2_with fail
    refine (f10_yes _ _ _ _ _ _ _ _ h).mono ?_
    rintro e w' ⟨rfl, rfl⟩
    go_wp2
    go_ret
    exact ⟨rfl, Below.refl _ _⟩

set_option maxHeartbeats 1000000 in
theorem walk_in (x0 : Addr) (len0 cap0 : Nat) (A : List Int) (x1 : Addr) (len1 cap1 : Nat) (B : List Int) (a2 : Int) (w : World) (h : len0 + len1 ≤ 1048576) (hk0 : 0 ≤ a2) (hk1 : a2 ≤ (len0 : Int) + len1)
     (RA : Row w (some x0) len0 A) (RB : Row w (some x1) len1 B) :
    Calls Trym.prog 4 #[.slice (some x0) len0 cap0, .slice (some x1) len1 cap1, .int .i64 a2] w fun e w' => e = .returned (.bool true) ∧ Below w.heap.size w w' := by
  have q22 := fun (w : World) (a : Option Addr) (n c n' c' : Nat) => run_neq_slice_nil_any (P := Trym.prog) w 22 5 a n c n' c' Trym.underlying22
  go_enter Trym.func4, Trym.ntmps4
  go_wp2_with fail
  refine (f10_yes _ _ _ _ _ _ _ _ h).mono ?_
  intro e w' ⟨he, hw⟩
  subst he; subst hw
  go_wp2_with (first
    | (refine law_make rfl (.tmp 39) rfl len0 rfl (by omega) ?_; intro w1 o1 g1; have b1 := (Below.refl _ _).grown g1 (Nat.le_refl _) (by simp))
    | (refine law_copy rfl (.tmp 41) (.tmp 42) rfl _ len0 _ cap0 rfl rfl _ A o1 (RA.below b1) ?_; intro w2 v2 o2 g2; have b2 := b1.grown g2 b1.size (by simp))
    | (refine law_make rfl (.tmp 48) rfl len1 rfl (by omega) ?_; intro w3 o3 g3; have b3 := b2.grown g3 b2.size (by simp); have p3 := o2.grown g3 (by simp))
    | (refine law_copy rfl (.tmp 50) (.tmp 51) rfl _ len1 _ cap1 rfl rfl _ B o3 (RB.below b3) ?_; intro w4 v4 o4 g4; have b4 := b3.grown g4 b3.size (by intro k hk; have := b2.size; simp at hk; omega); have p4 := p3.grown g4 (by have := o2.lt; simp; omega))
    | (refine law_make0 rfl _ (.tmp 58) rfl _ (len0 + len1) rfl rfl (by omega) (by omega) ?_; intro w5 o5 g5; have b5 := b4.grown g5 b4.size (by simp); have p5 := p4.grown g5 (by simp); have q5 := o4.grown g5 (by simp))
    | (refine law_append rfl (.tmp 60) (.tmp 61) rfl _ 0 _ len0 _ _ rfl rfl [] A o5 p5.row (by simp) (by omega) ?_; intro w6 o6 g6; simp only [Nat.zero_add, List.nil_append] at o6; have b6 := b5.grown g6 b5.size (by intro k hk; have := b4.size; simp at hk; omega); have p6 := p5.grown g6 (by have := p4.lt; simp; omega); have q6 := q5.grown g6 (by have := o4.lt; simp; omega))
    | (refine law_append rfl (.tmp 63) (.tmp 64) rfl _ len0 _ len1 _ _ rfl rfl A B o6 q6.row (by simp) (by omega) ?_; intro w7 o7 g7; have b7 := b6.grown g7 b6.size (by intro k hk; have := b4.size; simp at hk; omega); have p7 := p6.grown g7 (by have := p4.lt; simp; omega); have q7 := q6.grown g7 (by have := o4.lt; simp; omega)))
  all_goals clear o1 g1 b1 o2 g2 b2 o3 g3 b3 p3 o4 g4 b4 p4 o5 g5 b5 p5 q5 o6 g6 b6 p6 q6 g7
  · have hlt : a2 < len0 := by assumption
    have e1 : soe (A ++ B) a2.toNat = soe A a2.toNat := soe_left (by have := RA.1; omega)
    have e2 : soe A len0 = true := soe_end RA.1
    have e3 : soe B len1 = true := soe_end RB.1
    refine (f11 _ _ _ _ A _ (by omega) (by omega) p7.row).mono ?_
    intro e wx ⟨he, hw⟩; subst he; subst hw
    go_wp2_with fail
    refine (f11 _ _ _ _ (A ++ B) _ (by omega) (by omega) o7.row).mono ?_
    intro e wx ⟨he, hw⟩; subst he; subst hw
    go_wp2_with fail
    refine (f11 _ _ _ _ A _ (by omega) (by omega) p7.row).mono ?_
    intro e wx ⟨he, hw⟩; subst he; subst hw
    go_wp2_with fail
    refine (f11 _ _ _ _ B _ (by omega) (by omega) q7.row).mono ?_
    intro e wx ⟨he, hw⟩; subst he; subst hw
    go_wp2_with fail
    go_ret
    exact ⟨rfl, b7⟩
  · have hlt : (len0 : Int) ≤ a2 := by omega
    have e1 : soe (A ++ B) a2.toNat = soe B (a2 - len0).toNat := by
      rw [soe_right (by have := RA.1; omega)]; congr 1; have := RA.1; omega
    have e2 : soe A len0 = true := soe_end RA.1
    have e3 : soe B len1 = true := soe_end RB.1
    refine (f11 _ _ _ _ B _ (by omega) (by omega) q7.row).mono ?_
    intro e wx ⟨he, hw⟩; subst he; subst hw
    go_wp2_with fail
    refine (f11 _ _ _ _ (A ++ B) _ (by omega) (by omega) o7.row).mono ?_
    intro e wx ⟨he, hw⟩; subst he; subst hw
    go_wp2_with fail
    refine (f11 _ _ _ _ A _ (by omega) (by omega) p7.row).mono ?_
    intro e wx ⟨he, hw⟩; subst he; subst hw
    go_wp2_with fail
    refine (f11 _ _ _ _ B _ (by omega) (by omega) q7.row).mono ?_
    intro e wx ⟨he, hw⟩; subst he; subst hw
    go_wp2_with fail
    go_ret
    exact ⟨rfl, b7⟩

set_option maxHeartbeats 1000000 in
theorem walk_nil_some (x1 : Addr) (len1 cap1 : Nat) (B : List Int) (a2 : Int) (w : World) (h : len1 ≤ 1048576) (hk0 : 0 ≤ a2) (hk1 : a2 ≤ (len1 : Int))
     (RB : Row w (some x1) len1 B) :
    Calls Trym.prog 4 #[.slice Option.none 0 0, .slice (some x1) len1 cap1, .int .i64 a2] w fun e w' => e = .returned (.bool true) ∧ Below w.heap.size w w' := by
  have q22 := fun (w : World) (a : Option Addr) (n c n' c' : Nat) => run_neq_slice_nil_any (P := Trym.prog) w 22 5 a n c n' c' Trym.underlying22
  go_enter Trym.func4, Trym.ntmps4
  go_wp2_with fail
  refine (f10_yes _ _ _ _ _ _ _ _ (by omega)).mono ?_
  intro e w' ⟨he, hw⟩
  subst he; subst hw
  have b2 := Below.refl w'.heap.size w'
  go_wp2_with (first
    | (refine law_make rfl (.tmp 48) rfl len1 rfl (by omega) ?_; intro w3 o3 g3; have b3 := b2.grown g3 b2.size (by simp))
    | (refine law_copy rfl (.tmp 50) (.tmp 51) rfl _ len1 _ cap1 rfl rfl _ B o3 (RB.below b3) ?_; intro w4 v4 o4 g4; have b4 := b3.grown g4 b3.size (by intro k hk; have := b2.size; simp at hk; omega))
    | (refine law_make0 rfl _ (.tmp 58) rfl _ len1 rfl rfl (by omega) (by omega) ?_; intro w5 o5 g5; have b5 := b4.grown g5 b4.size (by simp); have q5 := o4.grown g5 (by simp))
    | (refine law_append rfl (.tmp 60) (.tmp 61) rfl _ 0 _ 0 _ _ rfl rfl [] [] o5 (Row.nil _ _) (by simp) (by omega) ?_; intro w6 o6 g6; simp only [Nat.zero_add, List.nil_append] at o6; have b6 := b5.grown g6 b5.size (by intro k hk; have := b4.size; simp at hk; omega); have q6 := q5.grown g6 (by have := o4.lt; simp; omega))
    | (refine law_append rfl (.tmp 63) (.tmp 64) rfl _ 0 _ len1 _ _ rfl rfl [] B o6 q6.row (by simp) (by omega) ?_; intro w7 o7 g7; simp only [Nat.zero_add, List.nil_append] at o7; have b7 := b6.grown g7 b6.size (by intro k hk; have := b4.size; simp at hk; omega); have q7 := q6.grown g7 (by have := o4.lt; simp; omega)))
  clear b2 o3 g3 b3 o4 g4 b4 o5 g5 b5 q5 o6 g6 b6 q6 g7
  have e2 : soe [] 0 = true := soe_end rfl
  have e3 : soe B len1 = true := soe_end RB.1
  refine (f11 _ _ _ _ B _ (by omega) (by omega) q7.row).mono ?_
  intro e wx ⟨he, hw⟩; subst he; subst hw
  go_wp2_with fail
  refine (f11 _ _ _ _ B _ (by omega) (by omega) o7.row).mono ?_
  intro e wx ⟨he, hw⟩; subst he; subst hw
  go_wp2_with fail
  refine (f11 _ _ 0 _ [] _ (by omega) (by omega) (Row.nil _ _)).mono ?_
  intro e wx ⟨he, hw⟩; subst he; subst hw
  go_wp2_with fail
  refine (f11 _ _ _ _ B _ (by omega) (by omega) q7.row).mono ?_
  intro e wx ⟨he, hw⟩; subst he; subst hw
  go_wp2_with fail
  go_ret
  exact ⟨rfl, b7⟩

set_option maxHeartbeats 1000000 in
theorem walk_some_nil (x0 : Addr) (len0 cap0 : Nat) (A : List Int) (a2 : Int) (w : World) (h : len0 ≤ 1048576) (hk0 : 0 ≤ a2) (hk1 : a2 ≤ (len0 : Int))
     (RA : Row w (some x0) len0 A) :
    Calls Trym.prog 4 #[.slice (some x0) len0 cap0, .slice Option.none 0 0, .int .i64 a2] w fun e w' => e = .returned (.bool true) ∧ Below w.heap.size w w' := by
  have q22 := fun (w : World) (a : Option Addr) (n c n' c' : Nat) => run_neq_slice_nil_any (P := Trym.prog) w 22 5 a n c n' c' Trym.underlying22
  go_enter Trym.func4, Trym.ntmps4
  go_wp2_with fail
  refine (f10_yes _ _ _ _ _ _ _ _ (by omega)).mono ?_
  intro e w' ⟨he, hw⟩
  subst he; subst hw
  go_wp2_with (first
    | (refine law_make rfl (.tmp 39) rfl len0 rfl (by omega) ?_; intro w1 o1 g1; have b1 := (Below.refl _ _).grown g1 (Nat.le_refl _) (by simp))
    | (refine law_copy rfl (.tmp 41) (.tmp 42) rfl _ len0 _ cap0 rfl rfl _ A o1 (RA.below b1) ?_; intro w4 v4 o4 g4; have b4 := b1.grown g4 b1.size (by simp))
    | (refine law_make0 rfl _ (.tmp 58) rfl _ len0 rfl rfl (by omega) (by omega) ?_; intro w5 o5 g5; have b5 := b4.grown g5 b4.size (by simp); have p5 := o4.grown g5 (by simp))
    | (refine law_append rfl (.tmp 60) (.tmp 61) rfl _ 0 _ len0 _ _ rfl rfl [] A o5 p5.row (by simp) (by omega) ?_; intro w6 o6 g6; simp only [Nat.zero_add, List.nil_append] at o6; have b6 := b5.grown g6 b5.size (by intro k hk; have := b4.size; simp at hk; omega); have p6 := p5.grown g6 (by have := o4.lt; simp; omega))
    | (refine law_append rfl (.tmp 63) (.tmp 64) rfl _ len0 _ 0 _ _ rfl rfl A [] o6 (Row.nil _ _) (by simp) (by omega) ?_; intro w7 o7 g7; simp only [Nat.add_zero, List.append_nil] at o7; have b7 := b6.grown g7 b6.size (by intro k hk; have := b4.size; simp at hk; omega); have p7 := p6.grown g7 (by have := o4.lt; simp; omega)))
  all_goals clear o1 g1 b1 o4 g4 b4 o5 g5 b5 p5 o6 g6 b6 p6 g7
  all_goals have e2 : soe A len0 = true := soe_end RA.1
  all_goals have e3 : soe [] 0 = true := soe_end rfl
  · have hlt : a2 < len0 := by assumption
    refine (f11 _ _ _ _ A _ (by omega) (by omega) p7.row).mono ?_
    intro e wx ⟨he, hw⟩; subst he; subst hw
    go_wp2_with fail
    refine (f11 _ _ _ _ A _ (by omega) (by omega) o7.row).mono ?_
    intro e wx ⟨he, hw⟩; subst he; subst hw
    go_wp2_with fail
    refine (f11 _ _ _ _ A _ (by omega) (by omega) p7.row).mono ?_
    intro e wx ⟨he, hw⟩; subst he; subst hw
    go_wp2_with fail
    refine (f11 _ _ 0 _ [] _ (by omega) (by omega) (Row.nil _ _)).mono ?_
    intro e wx ⟨he, hw⟩; subst he; subst hw
    go_wp2_with fail
    go_ret
    exact ⟨rfl, b7⟩
  · have e4 : soe A a2.toNat = true := soe_end (by have := RA.1; omega)
    have e5 : soe [] (a2 - len0).toNat = true := soe_end (by simp; omega)
    refine (f11 _ _ 0 _ [] _ (by omega) (by omega) (Row.nil _ _)).mono ?_
    intro e wx ⟨he, hw⟩; subst he; subst hw
    go_wp2_with fail
    refine (f11 _ _ _ _ A _ (by omega) (by omega) o7.row).mono ?_
    intro e wx ⟨he, hw⟩; subst he; subst hw
    go_wp2_with fail
    refine (f11 _ _ _ _ A _ (by omega) (by omega) p7.row).mono ?_
    intro e wx ⟨he, hw⟩; subst he; subst hw
    go_wp2_with fail
    refine (f11 _ _ 0 _ [] _ (by omega) (by omega) (Row.nil _ _)).mono ?_
    intro e wx ⟨he, hw⟩; subst he; subst hw
    go_wp2_with fail
    go_ret
    exact ⟨rfl, b7⟩

set_option maxHeartbeats 1000000 in
theorem walk_nil_nil (a2 : Int) (w : World) (hk0 : 0 ≤ a2) (hk1 : a2 ≤ 0) :
    Calls Trym.prog 4 #[.slice Option.none 0 0, .slice Option.none 0 0, .int .i64 a2] w fun e w' => e = .returned (.bool true) ∧ Below w.heap.size w w' := by
  obtain rfl : a2 = 0 := by omega
  have q22 := fun (w : World) (a : Option Addr) (n c n' c' : Nat) => run_neq_slice_nil_any (P := Trym.prog) w 22 5 a n c n' c' Trym.underlying22
  go_enter Trym.func4, Trym.ntmps4
  go_wp2_with fail
  refine (f10_yes _ _ _ _ _ _ _ _ (by omega)).mono ?_
  intro e w' ⟨he, hw⟩
  subst he; subst hw
  have b4 := Below.refl w'.heap.size w'
  go_wp2_with (first
    | (refine law_make0 rfl _ (.tmp 58) rfl _ 0 rfl rfl (by omega) (by omega) ?_; intro w5 o5 g5; have b5 := b4.grown g5 b4.size (by simp))
    | (refine law_append rfl (.tmp 60) (.tmp 61) rfl _ 0 _ 0 _ _ rfl rfl [] [] o5 (Row.nil _ _) (by simp) (by omega) ?_; intro w6 o6 g6; simp only [Nat.zero_add, List.nil_append] at o6; have b6 := b5.grown g6 b5.size (by intro k hk; have := b4.size; simp at hk; omega))
    | (refine law_append rfl (.tmp 63) (.tmp 64) rfl _ 0 _ 0 _ _ rfl rfl [] [] o6 (Row.nil _ _) (by simp) (by omega) ?_; intro w7 o7 g7; simp only [Nat.zero_add, List.nil_append] at o7; have b7 := b6.grown g7 b6.size (by intro k hk; have := b4.size; simp at hk; omega)))
  clear b4 o5 g5 b5 o6 g6 b6 g7 o7
  have e2 : soe [] 0 = true := soe_end rfl
  refine (f11 _ _ 0 _ [] _ (by omega) (by omega) (Row.nil _ _)).mono ?_
  intro e wx ⟨he, hw⟩; subst he; subst hw
  go_wp2_with fail
  refine (f11 _ _ 0 _ [] _ (by omega) (by omega) (Row.nil _ _)).mono ?_
  intro e wx ⟨he, hw⟩; subst he; subst hw
  go_wp2_with fail
  refine (f11 _ _ 0 _ [] _ (by omega) (by omega) (Row.nil _ _)).mono ?_
  intro e wx ⟨he, hw⟩; subst he; subst hw
  go_wp2_with fail
  refine (f11 _ _ 0 _ [] _ (by omega) (by omega) (Row.nil _ _)).mono ?_
  intro e wx ⟨he, hw⟩; subst he; subst hw
  go_wp2_with fail
  go_ret
  exact ⟨rfl, b7⟩

end Go.Proofs.Qxb6612827aMods.CutWalks
