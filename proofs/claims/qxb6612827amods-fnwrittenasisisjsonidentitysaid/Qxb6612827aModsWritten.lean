/-
  THE CALLEES' CONTRACTS for 'FnWrittenAsIsIsJSONIdentity': writtenAsIs (15), ZZwrittenAsIs (9), jsonHTMLEscapeByte (8).
-/
import Derived.Test.Qxb6612827aModsProg
import Derived.WalkKit
import Derived.ProofKit
import Derived.RegionTactic
namespace Go.Proofs.Qxb6612827aMods.Written
open Go.RowKit

def asIsB (c : Int) : Bool := decide (32 ≤ c) && decide (c ≤ 126) && !(c == 34) && !(c == 92) && !(c == 60) && !(c == 62) && !(c == 38)

theorem ret_bool {a b : Bool} (h : a = b) : Ending.returned (.bool a) = .returned (.bool b) := by rw [h]

set_option maxHeartbeats 400000 in
theorem f15 (c : Int) (w : World) :
    Calls Trym.prog 15 #[.int .u8 c] w fun e w' => e = .returned (.bool (asIsB c)) ∧ w' = w := by
  go_enter Trym.func15, Trym.ntmps15
  go_wp2
  all_goals
    go_ret
    exact ⟨ret_bool (by rw [Bool.eq_iff_iff]; simp [asIsB]; omega), rfl⟩

theorem f9 (c : Int) (w : World) :
    Calls Trym.prog 9 #[.int .u8 c] w fun e w' => e = .returned (.bool (asIsB c)) ∧ w' = w := by
  go_enter Trym.func9, Trym.ntmps9
  go_wp2_with (go_at_call 15; refine (f15 _ _).mono ?_; rintro e w' ⟨rfl, rfl⟩)
  go_ret
  exact ⟨rfl, rfl⟩

theorem f8_plain (c : Int) (w : World) (h1 : 32 ≤ c) (h2 : c ≤ 127) (h34 : (c == 34) = false) (h92 : (c == 92) = false) (h60 : (c == 60) = false) (h62 : (c == 62) = false) (h38 : (c == 38) = false) :
    Calls Trym.prog 8 #[.int .u8 c] w fun e w' => e = .returned (.slice (some ⟨w.heap.size, 0, none⟩) 1 1) ∧ w' = w.alloc (.cells #[.int .u8 c] 5) := by
  go_enter Trym.func8, Trym.ntmps8
  go_wp2
  go_ret
  exact ⟨rfl, by simp⟩

theorem f8_big (c : Int) (w : World) (h1 : 128 ≤ c) :
    Calls Trym.prog 8 #[.int .u8 c] w fun e w' => e = .returned (.slice (some ⟨w.heap.size, 0, none⟩) 6 6) ∧ Grown w w' := by
  go_enter Trym.func8, Trym.ntmps8
  go_wp2
  go_ret
  exact ⟨rfl, by repeat (first | exact Grown.refl _ | apply Grown.drew | apply Grown.alloc)⟩

theorem f8_html (c : Int) (w : World) (h : c = 60 ∨ c = 62 ∨ c = 38) :
    Calls Trym.prog 8 #[.int .u8 c] w fun e w' => e = .returned (.slice (some ⟨w.heap.size, 0, none⟩) 6 6) ∧ Grown w w' := by
  rcases h with rfl | rfl | rfl
  all_goals
    go_enter Trym.func8, Trym.ntmps8
    go_wp2
    go_region
    all_goals
      go_wp2
      go_ret
      exact ⟨rfl, by repeat (first | exact Grown.refl _ | apply Grown.drew | apply Grown.alloc)⟩

theorem f8_low (c : Int) (w : World) (h0 : 0 ≤ c) (h1 : c < 32) (h10 : (c == 10) = false) (h13 : (c == 13) = false) (h9 : (c == 9) = false) :
    Calls Trym.prog 8 #[.int .u8 c] w fun e w' => e = .returned (.slice (some ⟨w.heap.size, 0, none⟩) 6 6) ∧ Grown w w' := by
  have a1 : 0 ≤ c / 16 := by omega
  have a2 : c / 16 < 16 := by omega
  have a3 : 0 ≤ c % 16 := by omega
  have a4 : c % 16 < 16 := by omega
  go_enter Trym.func8, Trym.ntmps8
  go_wp2
  go_region
  all_goals
    go_wp2
    go_ret
    exact ⟨rfl, by repeat (first | exact Grown.refl _ | apply Grown.drew | apply Grown.alloc)⟩

theorem f8_two (c : Int) (w : World) (h : c = 34 ∨ c = 92 ∨ c = 10 ∨ c = 13 ∨ c = 9) :
    Calls Trym.prog 8 #[.int .u8 c] w fun e w' => e = .returned (.slice (some ⟨w.heap.size, 0, none⟩) 2 2) ∧ Grown w w' := by
  rcases h with rfl | rfl | rfl | rfl | rfl
  all_goals
    go_enter Trym.func8, Trym.ntmps8
    go_wp2
    go_ret
    exact ⟨rfl, by repeat (first | exact Grown.refl _ | apply Grown.drew | apply Grown.alloc)⟩

end Go.Proofs.Qxb6612827aMods.Written
