/-
  THE WALKS of 'FnBeforeStepForward' (7), one theorem a way: a number below one; a line or column at the greatest int; the law itself.
-/
import Derived.Test.Qxb6612827aModsBefore
namespace Go.Proofs.Qxb6612827aMods.StepWalks
open Go.RowKit
open Before

theorem walk_small (l c k : Int) (w : World) (h : l < 1 ∨ c < 1 ∨ k < 1) :
    Calls Trym.prog 7 #[.int .i64 l, .int .i64 c, .int .i64 k] w fun e w' => e = .returned (.bool true) ∧ Grown w w' := by
  by_cases h1 : l < 1
  · clear h
    go_enter Trym.func7, Trym.ntmps7
    go_wp2
    go_ret
    exact ⟨rfl, Grown.refl _⟩
  · by_cases h2 : c < 1
    · clear h
      go_enter Trym.func7, Trym.ntmps7
      go_wp2
      go_ret
      exact ⟨rfl, Grown.refl _⟩
    · have h3 : k < 1 := by omega
      clear h
      go_enter Trym.func7, Trym.ntmps7
      go_wp2
      go_ret
      exact ⟨rfl, Grown.refl _⟩

theorem walk_great (l c k : Int) (w : World) (h1 : 1 ≤ l) (h2 : 1 ≤ c) (h3 : 1 ≤ k) (h : 9223372036854775807 ≤ l ∨ 9223372036854775807 ≤ c) :
    Calls Trym.prog 7 #[.int .i64 l, .int .i64 c, .int .i64 k] w fun e w' => e = .returned (.bool true) ∧ Grown w w' := by
  by_cases h4 : 9223372036854775807 ≤ l
  · clear h
    go_enter Trym.func7, Trym.ntmps7
    go_wp2
    go_ret
    exact ⟨rfl, Grown.refl _⟩
  · have h5 : 9223372036854775807 ≤ c := by omega
    clear h
    go_enter Trym.func7, Trym.ntmps7
    go_wp2
    go_ret
    exact ⟨rfl, Grown.refl _⟩

theorem walk_main (l c k : Int) (w : World) (h1 : 1 ≤ l) (h2 : 1 ≤ c) (h3 : 1 ≤ k) (h4 : l < 9223372036854775807) (h5 : c < 9223372036854775807) :
    Calls Trym.prog 7 #[.int .i64 l, .int .i64 c, .int .i64 k] w fun e w' => e = .returned (.bool true) ∧ Grown w w' := by
  have e1 : bef l c l (c + 1) = true := by simp [bef]; omega
  have e2 : bef l c (l + 1) k = true := by simp [bef]; omega
  have e3 : bef l (c + 1) l c = false := by simp [bef]; omega
  have e4 : bef (l + 1) k l c = false := by simp [bef]; omega
  go_enter Trym.func7, Trym.ntmps7
  go_wp2_with fail
  refine (f13 _ l c).mono ?_
  rintro e w1 ⟨⟨b1, rfl, q1⟩, x1⟩
  go_wp2_with fail
  refine (f14 _ b1 l c _ _ q1).mono ?_
  intro e wx ⟨he, hw⟩; subst he; subst hw
  go_wp2_with fail
  refine (f14 _ b1 l c _ _ q1).mono ?_
  intro e wx ⟨he, hw⟩; subst he; subst hw
  go_wp2_with fail
  refine (f13 _ l (c + 1)).mono ?_
  rintro e w2 ⟨⟨b2, rfl, q2⟩, x2⟩
  go_wp2_with fail
  refine (f14 _ b2 l (c + 1) _ _ q2).mono ?_
  intro e wx ⟨he, hw⟩; subst he; subst hw
  go_wp2_with fail
  refine (f13 _ (l + 1) k).mono ?_
  rintro e w3 ⟨⟨b3, rfl, q3⟩, x3⟩
  go_wp2_with fail
  refine (f14 _ b3 (l + 1) k _ _ q3).mono ?_
  intro e wx ⟨he, hw⟩; subst he; subst hw
  go_wp2_with fail
  go_ret
  exact ⟨rfl, ((x1.trans x2).trans x3).1⟩
end Go.Proofs.Qxb6612827aMods.StepWalks
