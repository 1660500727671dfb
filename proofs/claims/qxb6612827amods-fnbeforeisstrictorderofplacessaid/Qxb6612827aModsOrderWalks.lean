/-
  THE WALKS of 'FnBeforeIsStrictOrderOfPlaces' (6), one theorem a way: a number below one; p before q (on an earlier line, on the same line); q before p (likewise); the same place.
-/
import Derived.Test.Qxb6612827aModsBefore
namespace Go.Proofs.Qxb6612827aMods.OrderWalks
open Go.RowKit
open Before

/-! ### The plain law -/
theorem bef_self (l c : Int) : bef l c l c = false := by simp [bef]
theorem bef_trans {l1 c1 l2 c2 l3 c3 : Int} (h : bef l1 c1 l2 c2 = true) (k : bef l2 c2 l3 c3 = true) : bef l1 c1 l3 c3 = true := by
  simp [bef] at *; omega

set_option maxHeartbeats 1000000 in
theorem walk_small (l1 c1 l2 c2 l3 c3 : Int) (w : World) (h : l1 < 1 ∨ c1 < 1 ∨ l2 < 1 ∨ c2 < 1 ∨ l3 < 1 ∨ c3 < 1) :
    Calls Trym.prog 6 #[.int .i64 l1, .int .i64 c1, .int .i64 l2, .int .i64 c2, .int .i64 l3, .int .i64 c3] w fun e w' => e = .returned (.bool true) ∧ Grown w w' := by
  by_cases h0 : l1 < 1
  · clear h
    go_enter Trym.func6, Trym.ntmps6
    go_wp2
    go_ret
    exact ⟨rfl, Grown.refl _⟩
  by_cases h1 : c1 < 1
  · clear h
    go_enter Trym.func6, Trym.ntmps6
    go_wp2
    go_ret
    exact ⟨rfl, Grown.refl _⟩
  by_cases h2 : l2 < 1
  · clear h
    go_enter Trym.func6, Trym.ntmps6
    go_wp2
    go_ret
    exact ⟨rfl, Grown.refl _⟩
  by_cases h3 : c2 < 1
  · clear h
    go_enter Trym.func6, Trym.ntmps6
    go_wp2
    go_ret
    exact ⟨rfl, Grown.refl _⟩
  by_cases h4 : l3 < 1
  · clear h
    go_enter Trym.func6, Trym.ntmps6
    go_wp2
    go_ret
    exact ⟨rfl, Grown.refl _⟩
  have h5 : c3 < 1 := by omega
  clear h
  go_enter Trym.func6, Trym.ntmps6
  go_wp2
  go_ret
  exact ⟨rfl, Grown.refl _⟩

set_option maxHeartbeats 1000000 in
theorem walk_line_yes (l1 c1 l2 c2 l3 c3 : Int) (w : World) (p0 : 1 ≤ l1) (p1 : 1 ≤ c1) (p2 : 1 ≤ l2) (p3 : 1 ≤ c2) (p4 : 1 ≤ l3) (p5 : 1 ≤ c3) (h : l1 < l2) (k : bef l2 c2 l3 c3 = true) :
    Calls Trym.prog 6 #[.int .i64 l1, .int .i64 c1, .int .i64 l2, .int .i64 c2, .int .i64 l3, .int .i64 c3] w fun e w' => e = .returned (.bool true) ∧ Grown w w' := by
  have e1 : bef l1 c1 l2 c2 = true := by simp [bef]; omega
  have e2 : bef l2 c2 l1 c1 = false := by simp [bef]; omega
  have hs : (l1 == l2) = false := by simp; omega
  have e6 : bef l1 c1 l3 c3 = true := bef_trans e1 k
  have e0 := bef_self l1 c1
  go_enter Trym.func6, Trym.ntmps6
  go_wp2_with fail
  refine (f13 _ l1 c1).mono ?_
  rintro e w1 ⟨⟨b1, rfl, q1⟩, x1⟩
  go_wp2_with fail
  refine (f13 _ l2 c2).mono ?_
  rintro e w2 ⟨⟨b2, rfl, q2⟩, x2⟩
  have q1' := q1.ext x2
  go_wp2_with fail
  refine (f14 _ b1 l1 c1 _ _ q1').mono ?_
  intro e wx ⟨he, hw⟩; subst he; subst hw
  go_wp2_with fail
  refine (f14 _ b2 l2 c2 _ _ q2).mono ?_
  intro e wx ⟨he, hw⟩; subst he; subst hw
  go_wp2_with fail
  refine (f14 _ b1 l1 c1 _ _ q1').mono ?_
  intro e wx ⟨he, hw⟩; subst he; subst hw
  go_wp2_with fail
  refine (f14 _ b2 l2 c2 _ _ q2).mono ?_
  intro e wx ⟨he, hw⟩; subst he; subst hw
  go_wp2_with fail
  refine (f14 _ b1 l1 c1 _ _ q1').mono ?_
  intro e wx ⟨he, hw⟩; subst he; subst hw
  go_wp2_with fail
  go_ret
  exact ⟨rfl, (x1.trans x2).1⟩

set_option maxHeartbeats 1000000 in
theorem walk_col_yes (l1 c1 c2 l3 c3 : Int) (w : World) (p0 : 1 ≤ l1) (p1 : 1 ≤ c1) (p2 : 1 ≤ c2) (p3 : 1 ≤ l3) (p4 : 1 ≤ c3) (h : c1 < c2) (k : bef l1 c2 l3 c3 = true) :
    Calls Trym.prog 6 #[.int .i64 l1, .int .i64 c1, .int .i64 l1, .int .i64 c2, .int .i64 l3, .int .i64 c3] w fun e w' => e = .returned (.bool true) ∧ Grown w w' := by
  have e1 : bef l1 c1 l1 c2 = true := by simp [bef]; omega
  have e2 : bef l1 c2 l1 c1 = false := by simp [bef]; omega
  have hs : (c1 == c2) = false := by simp; omega
  have e6 : bef l1 c1 l3 c3 = true := bef_trans e1 k
  have e0 := bef_self l1 c1
  go_enter Trym.func6, Trym.ntmps6
  go_wp2_with fail
  refine (f13 _ l1 c1).mono ?_
  rintro e w1 ⟨⟨b1, rfl, q1⟩, x1⟩
  go_wp2_with fail
  refine (f13 _ l1 c2).mono ?_
  rintro e w2 ⟨⟨b2, rfl, q2⟩, x2⟩
  have q1' := q1.ext x2
  go_wp2_with fail
  refine (f14 _ b1 l1 c1 _ _ q1').mono ?_
  intro e wx ⟨he, hw⟩; subst he; subst hw
  go_wp2_with fail
  refine (f14 _ b2 l1 c2 _ _ q2).mono ?_
  intro e wx ⟨he, hw⟩; subst he; subst hw
  go_wp2_with fail
  refine (f14 _ b1 l1 c1 _ _ q1').mono ?_
  intro e wx ⟨he, hw⟩; subst he; subst hw
  go_wp2_with fail
  refine (f14 _ b2 l1 c2 _ _ q2).mono ?_
  intro e wx ⟨he, hw⟩; subst he; subst hw
  go_wp2_with fail
  refine (f14 _ b1 l1 c1 _ _ q1').mono ?_
  intro e wx ⟨he, hw⟩; subst he; subst hw
  go_wp2_with fail
  go_ret
  exact ⟨rfl, (x1.trans x2).1⟩

set_option maxHeartbeats 1000000 in
theorem walk_line_no (l1 c1 l2 c2 l3 c3 : Int) (w : World) (p0 : 1 ≤ l1) (p1 : 1 ≤ c1) (p2 : 1 ≤ l2) (p3 : 1 ≤ c2) (p4 : 1 ≤ l3) (p5 : 1 ≤ c3) (h : l1 < l2) (k : bef l2 c2 l3 c3 = false) :
    Calls Trym.prog 6 #[.int .i64 l1, .int .i64 c1, .int .i64 l2, .int .i64 c2, .int .i64 l3, .int .i64 c3] w fun e w' => e = .returned (.bool true) ∧ Grown w w' := by
  have e1 : bef l1 c1 l2 c2 = true := by simp [bef]; omega
  have e2 : bef l2 c2 l1 c1 = false := by simp [bef]; omega
  have hs : (l1 == l2) = false := by simp; omega
  have e0 := bef_self l1 c1
  go_enter Trym.func6, Trym.ntmps6
  go_wp2_with fail
  refine (f13 _ l1 c1).mono ?_
  rintro e w1 ⟨⟨b1, rfl, q1⟩, x1⟩
  go_wp2_with fail
  refine (f13 _ l2 c2).mono ?_
  rintro e w2 ⟨⟨b2, rfl, q2⟩, x2⟩
  have q1' := q1.ext x2
  go_wp2_with fail
  refine (f14 _ b1 l1 c1 _ _ q1').mono ?_
  intro e wx ⟨he, hw⟩; subst he; subst hw
  go_wp2_with fail
  refine (f14 _ b2 l2 c2 _ _ q2).mono ?_
  intro e wx ⟨he, hw⟩; subst he; subst hw
  go_wp2_with fail
  refine (f14 _ b1 l1 c1 _ _ q1').mono ?_
  intro e wx ⟨he, hw⟩; subst he; subst hw
  go_wp2_with fail
  refine (f14 _ b2 l2 c2 _ _ q2).mono ?_
  intro e wx ⟨he, hw⟩; subst he; subst hw
  go_wp2_with fail
  go_ret
  exact ⟨rfl, (x1.trans x2).1⟩

set_option maxHeartbeats 1000000 in
theorem walk_col_no (l1 c1 c2 l3 c3 : Int) (w : World) (p0 : 1 ≤ l1) (p1 : 1 ≤ c1) (p2 : 1 ≤ c2) (p3 : 1 ≤ l3) (p4 : 1 ≤ c3) (h : c1 < c2) (k : bef l1 c2 l3 c3 = false) :
    Calls Trym.prog 6 #[.int .i64 l1, .int .i64 c1, .int .i64 l1, .int .i64 c2, .int .i64 l3, .int .i64 c3] w fun e w' => e = .returned (.bool true) ∧ Grown w w' := by
  have e1 : bef l1 c1 l1 c2 = true := by simp [bef]; omega
  have e2 : bef l1 c2 l1 c1 = false := by simp [bef]; omega
  have hs : (c1 == c2) = false := by simp; omega
  have e0 := bef_self l1 c1
  go_enter Trym.func6, Trym.ntmps6
  go_wp2_with fail
  refine (f13 _ l1 c1).mono ?_
  rintro e w1 ⟨⟨b1, rfl, q1⟩, x1⟩
  go_wp2_with fail
  refine (f13 _ l1 c2).mono ?_
  rintro e w2 ⟨⟨b2, rfl, q2⟩, x2⟩
  have q1' := q1.ext x2
  go_wp2_with fail
  refine (f14 _ b1 l1 c1 _ _ q1').mono ?_
  intro e wx ⟨he, hw⟩; subst he; subst hw
  go_wp2_with fail
  refine (f14 _ b2 l1 c2 _ _ q2).mono ?_
  intro e wx ⟨he, hw⟩; subst he; subst hw
  go_wp2_with fail
  refine (f14 _ b1 l1 c1 _ _ q1').mono ?_
  intro e wx ⟨he, hw⟩; subst he; subst hw
  go_wp2_with fail
  refine (f14 _ b2 l1 c2 _ _ q2).mono ?_
  intro e wx ⟨he, hw⟩; subst he; subst hw
  go_wp2_with fail
  go_ret
  exact ⟨rfl, (x1.trans x2).1⟩

set_option maxHeartbeats 1000000 in
theorem walk_line_back (l1 c1 l2 c2 l3 c3 : Int) (w : World) (p0 : 1 ≤ l1) (p1 : 1 ≤ c1) (p2 : 1 ≤ l2) (p3 : 1 ≤ c2) (p4 : 1 ≤ l3) (p5 : 1 ≤ c3) (h : l2 < l1) :
    Calls Trym.prog 6 #[.int .i64 l1, .int .i64 c1, .int .i64 l2, .int .i64 c2, .int .i64 l3, .int .i64 c3] w fun e w' => e = .returned (.bool true) ∧ Grown w w' := by
  have e1 : bef l1 c1 l2 c2 = false := by simp [bef]; omega
  have e2 : bef l2 c2 l1 c1 = true := by simp [bef]; omega
  have hs : (l1 == l2) = false := by simp; omega
  have e0 := bef_self l1 c1
  go_enter Trym.func6, Trym.ntmps6
  go_wp2_with fail
  refine (f13 _ l1 c1).mono ?_
  rintro e w1 ⟨⟨b1, rfl, q1⟩, x1⟩
  go_wp2_with fail
  refine (f13 _ l2 c2).mono ?_
  rintro e w2 ⟨⟨b2, rfl, q2⟩, x2⟩
  have q1' := q1.ext x2
  go_wp2_with fail
  refine (f14 _ b1 l1 c1 _ _ q1').mono ?_
  intro e wx ⟨he, hw⟩; subst he; subst hw
  go_wp2_with fail
  refine (f14 _ b2 l2 c2 _ _ q2).mono ?_
  intro e wx ⟨he, hw⟩; subst he; subst hw
  go_wp2_with fail
  refine (f14 _ b1 l1 c1 _ _ q1').mono ?_
  intro e wx ⟨he, hw⟩; subst he; subst hw
  go_wp2_with fail
  go_ret
  exact ⟨rfl, (x1.trans x2).1⟩

set_option maxHeartbeats 1000000 in
theorem walk_col_back (l1 c1 c2 l3 c3 : Int) (w : World) (p0 : 1 ≤ l1) (p1 : 1 ≤ c1) (p2 : 1 ≤ c2) (p3 : 1 ≤ l3) (p4 : 1 ≤ c3) (h : c2 < c1) :
    Calls Trym.prog 6 #[.int .i64 l1, .int .i64 c1, .int .i64 l1, .int .i64 c2, .int .i64 l3, .int .i64 c3] w fun e w' => e = .returned (.bool true) ∧ Grown w w' := by
  have e1 : bef l1 c1 l1 c2 = false := by simp [bef]; omega
  have e2 : bef l1 c2 l1 c1 = true := by simp [bef]; omega
  have hs : (c1 == c2) = false := by simp; omega
  have e0 := bef_self l1 c1
  go_enter Trym.func6, Trym.ntmps6
  go_wp2_with fail
  refine (f13 _ l1 c1).mono ?_
  rintro e w1 ⟨⟨b1, rfl, q1⟩, x1⟩
  go_wp2_with fail
  refine (f13 _ l1 c2).mono ?_
  rintro e w2 ⟨⟨b2, rfl, q2⟩, x2⟩
  have q1' := q1.ext x2
  go_wp2_with fail
  refine (f14 _ b1 l1 c1 _ _ q1').mono ?_
  intro e wx ⟨he, hw⟩; subst he; subst hw
  go_wp2_with fail
  refine (f14 _ b2 l1 c2 _ _ q2).mono ?_
  intro e wx ⟨he, hw⟩; subst he; subst hw
  go_wp2_with fail
  refine (f14 _ b1 l1 c1 _ _ q1').mono ?_
  intro e wx ⟨he, hw⟩; subst he; subst hw
  go_wp2_with fail
  go_ret
  exact ⟨rfl, (x1.trans x2).1⟩

set_option maxHeartbeats 1000000 in
theorem walk_same (l1 c1 l3 c3 : Int) (w : World) (p0 : 1 ≤ l1) (p1 : 1 ≤ c1) (p2 : 1 ≤ l3) (p3 : 1 ≤ c3) :
    Calls Trym.prog 6 #[.int .i64 l1, .int .i64 c1, .int .i64 l1, .int .i64 c1, .int .i64 l3, .int .i64 c3] w fun e w' => e = .returned (.bool true) ∧ Grown w w' := by
  have e0 := bef_self l1 c1
  go_enter Trym.func6, Trym.ntmps6
  go_wp2_with fail
  refine (f13 _ l1 c1).mono ?_
  rintro e w1 ⟨⟨b1, rfl, q1⟩, x1⟩
  go_wp2_with fail
  refine (f13 _ l1 c1).mono ?_
  rintro e w2 ⟨⟨b2, rfl, q2⟩, x2⟩
  have q1' := q1.ext x2
  go_wp2_with fail
  refine (f14 _ b1 l1 c1 _ _ q1').mono ?_
  intro e wx ⟨he, hw⟩; subst he; subst hw
  go_wp2_with fail
  refine (f14 _ b2 l1 c1 _ _ q2).mono ?_
  intro e wx ⟨he, hw⟩; subst he; subst hw
  go_wp2_with fail
  refine (f14 _ b1 l1 c1 _ _ q1').mono ?_
  intro e wx ⟨he, hw⟩; subst he; subst hw
  go_wp2_with fail
  go_ret
  exact ⟨rfl, (x1.trans x2).1⟩

end Go.Proofs.Qxb6612827aMods.OrderWalks
