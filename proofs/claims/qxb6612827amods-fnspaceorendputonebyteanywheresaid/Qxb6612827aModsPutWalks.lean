/-
  THE WALKS of 'FnSpaceOrEndPutOneByteAnywhere' (5), one theorem a way: too long; j outside; j inside the text; j at its end; the nil text.
-/
import Derived.Test.Qxb6612827aModsPutMem
import Derived.WalkSpells
namespace Go.Proofs.Qxb6612827aMods.PutWalks
open Go.RowKit
open Space

theorem walk_far (a0 : Option Addr) (n cap : Nat) (j x : Int) (w : World) (h : ¬ n ≤ 1048576) :
    Calls Trym.prog 5 #[.slice a0 n cap, .int .i64 j, .int .u8 x] w fun e w' => e = .returned (.bool true) ∧ Below w.heap.size w w' := by
  go_enter Trym.func5, Trym.ntmps5
  go_wp2_with fail
  refine (f12_no _ _ _ _ _ _ h).mono ?_
  rintro e w' ⟨rfl, rfl⟩
  go_wp2
  go_ret
  exact ⟨rfl, Below.refl _ _⟩

theorem walk_out (a0 : Option Addr) (n cap : Nat) (j x : Int) (w : World) (h : n ≤ 1048576) (hj : j < 0 ∨ (n : Int) < j) :
    Calls Trym.prog 5 #[.slice a0 n cap, .int .i64 j, .int .u8 x] w fun e w' => e = .returned (.bool true) ∧ Below w.heap.size w w' := by
  rcases hj with hj | hj
  · go_enter Trym.func5, Trym.ntmps5
    go_wp2_with fail
    refine (f12_yes _ _ _ _ _ _ h).mono ?_
    rintro e w' ⟨rfl, rfl⟩
    go_wp2
    go_ret
    exact ⟨rfl, Below.refl _ _⟩
  · have hj0 : ¬ j < 0 := by omega
    go_enter Trym.func5, Trym.ntmps5
    go_wp2_with fail
    refine (f12_yes _ _ _ _ _ _ h).mono ?_
    rintro e w' ⟨rfl, rfl⟩
    go_wp2
    go_ret
    exact ⟨rfl, Below.refl _ _⟩

set_option maxHeartbeats 1000000 in
theorem walk_mid (x0 : Addr) (n cap : Nat) (T : List Int) (j : Nat) (x : Int) (w : World) (h : n ≤ 1048576) (hj : j ≤ n) (hlt : j < n) (RT : Row w (some x0) n T) :
    Calls Trym.prog 5 #[.slice (some x0) n cap, .int .i64 (j : Int), .int .u8 x] w fun e w' => e = .returned (.bool true) ∧ Below w.heap.size w w' := by
  have q22 := fun (w : World) (a : Option Addr) (n c n' c' : Nat) => run_neq_slice_nil_any (P := Trym.prog) w 22 5 a n c n' c' Trym.underlying22
  go_enter Trym.func5, Trym.ntmps5
  go_wp2_with fail
  refine (f12_yes _ _ _ _ _ _ h).mono ?_
  intro e w' ⟨he, hw⟩
  subst he; subst hw
  go_wp2_with (first
    | (refine law_make rfl (.tmp 31) rfl n rfl (by omega) ?_; intro w1 o1 g1; have b1 := (Below.refl _ _).grown g1 (Nat.le_refl _) (by simp))
    | (refine law_copy rfl (.tmp 33) (.tmp 34) rfl _ n _ cap rfl rfl _ T o1 (RT.below b1) ?_; intro w2 v2 o2 g2; have b2 := b1.grown g2 b1.size (by simp))
    | (refine law_make0 rfl _ (.tmp 39) rfl _ (n + 1) rfl rfl (by omega) (by omega) ?_; intro w3 o3 g3; have b3 := b2.grown g3 b2.size (by simp); have p3 := o2.grown g3 (by simp))
    | (refine law_append rfl (.tmp 41) (.tmp 44) rfl _ 0 _ j _ _ rfl rfl [] (T.take j) o3 (p3.pre hj) (by simp) (by omega) ?_; intro w4 o4 g4; simp only [Nat.zero_add, List.nil_append] at o4; have b4 := b3.grown g4 b3.size (by intro k hk; have := b2.size; simp at hk; omega); have p4 := p3.grown g4 (by have := o2.lt; simp; omega); have o4' := o4.alloc (.cells #[.int .u8 x] 5); have p4' := p4.alloc (.cells #[.int .u8 x] 5); have b4' := b4.alloc b4.size (.cells #[.int .u8 x] 5))
    | (refine law_append rfl (.tmp 46) (.tmp 48) rfl _ j _ 1 _ _ rfl rfl (T.take j) [x] o4' (Row.one _ _) (by simp) (by omega) ?_; intro w5 o5 g5; have b5 := b4'.grown g5 b4'.size (by intro k hk; have := b2.size; simp at hk; omega); have p5 := p4'.grown g5 (by have := o2.lt; simp; omega))
    | (refine law_append_to rfl (.tmp 50) (.tmp 53) rfl _ (j + 1) _ (n - j) _ _ rfl rfl (T.take j ++ [x]) (T.drop j) o5 (p5.post hj) (by simp) (n + 1) (by omega) (putAt T j x) rfl (by omega) ?_; intro w6 o6 g6; have b6 := b5.grown g6 b5.size (by intro k hk; have := b2.size; simp at hk; omega); have p6 := p5.grown g6 (by have := o2.lt; simp; omega)))
  clear o1 g1 b1 o2 g2 b2 o3 g3 b3 p3 o4 g4 b4 p4 o4' p4' b4' o5 g5 b5 p5 g6
  have hT := RT.1
  obtain ⟨G, hG⟩ : ∃ G, G = putAt T j x := ⟨_, rfl⟩
  have e1 : soe G j = (x == 32) := by rw [hG]; exact soe_put_at (by omega)
  have e2 : soe G (n + 1) = true := by rw [hG, ← hT]; exact soe_put_end (by omega)
  have E3 : Hid (∀ k, k < j → soe G k = soe T k) := fun k hk => by rw [hG]; exact soe_put_before (by omega) hk
  have E4 : Hid (∀ k, j ≤ k → soe G (k + 1) = soe T k) := fun k hk => by rw [hG]; exact soe_put_behind (by omega) hk
  rw [← hG] at o6
  have RG := o6.row
  have RO := p6.row
  clear hG hT o6 p6
  refine (f11 _ _ _ _ G _ (by omega) (by omega) RG).mono ?_
  intro e wx ⟨he, hw⟩; subst he; subst hw
  go_wp2_with fail
  refine (f11 _ _ _ _ G _ (by omega) (by omega) RG).mono ?_
  intro e wx ⟨he, hw⟩; subst he; subst hw
  go_wp2_with fail
  go_loop [9] (fun i => ∃ k : Nat, k ≤ n + 1 ∧ i = .int .i64 k) (fun i => n + 1 - (intOf i).toNat)
  case atStart => exact ⟨0, Nat.zero_le _, rfl⟩
  case round =>
    obtain ⟨k, hk, rfl⟩ := hrel
    by_cases hkn : k ≤ n
    · by_cases hkj : k < j
      · have e3 := E3.out k hkj
        go_wp2_with fail
        refine (f11 _ _ _ _ T _ (by omega) (by omega) RO).mono ?_
        intro e wx ⟨he, hw⟩; subst he; subst hw
        go_wp2_with fail
        refine (f11 _ _ _ _ G _ (by omega) (by omega) RG).mono ?_
        intro e wx ⟨he, hw⟩; subst he; subst hw
        go_wp2_with fail
        go_round
        case rel => exact ⟨k + 1, by omega, by go_num⟩
        case measure => simp [intOf]; omega
      · have e4 := E4.out k (by omega)
        go_wp2_with fail
        refine (f11 _ _ _ _ T _ (by omega) (by omega) RO).mono ?_
        intro e wx ⟨he, hw⟩; subst he; subst hw
        go_wp2_with fail
        refine (f11 _ _ _ _ G _ (by omega) (by omega) RG).mono ?_
        intro e wx ⟨he, hw⟩; subst he; subst hw
        go_wp2_with fail
        go_round
        case rel => exact ⟨k + 1, by omega, by go_num⟩
        case measure => simp [intOf]; omega
    · go_wp2_with fail
      go_ret
      exact ⟨rfl, b6⟩

set_option maxHeartbeats 1000000 in
theorem walk_end (x0 : Addr) (n cap : Nat) (T : List Int) (x : Int) (w : World) (h : n ≤ 1048576) (RT : Row w (some x0) n T) :
    Calls Trym.prog 5 #[.slice (some x0) n cap, .int .i64 (n : Int), .int .u8 x] w fun e w' => e = .returned (.bool true) ∧ Below w.heap.size w w' := by
  have q22 := fun (w : World) (a : Option Addr) (n c n' c' : Nat) => run_neq_slice_nil_any (P := Trym.prog) w 22 5 a n c n' c' Trym.underlying22
  go_enter Trym.func5, Trym.ntmps5
  go_wp2_with fail
  refine (f12_yes _ _ _ _ _ _ h).mono ?_
  intro e w' ⟨he, hw⟩
  subst he; subst hw
  go_wp2_with (first
    | (refine law_make rfl (.tmp 31) rfl n rfl (by omega) ?_; intro w1 o1 g1; have b1 := (Below.refl _ _).grown g1 (Nat.le_refl _) (by simp))
    | (refine law_copy rfl (.tmp 33) (.tmp 34) rfl _ n _ cap rfl rfl _ T o1 (RT.below b1) ?_; intro w2 v2 o2 g2; have b2 := b1.grown g2 b1.size (by simp))
    | (refine law_make0 rfl _ (.tmp 39) rfl _ (n + 1) rfl rfl (by omega) (by omega) ?_; intro w3 o3 g3; have b3 := b2.grown g3 b2.size (by simp); have p3 := o2.grown g3 (by simp))
    | (refine law_append rfl (.tmp 41) (.tmp 44) rfl _ 0 _ n _ _ rfl rfl [] (T.take n) o3 (p3.pre (Nat.le_refl _)) (by simp) (by omega) ?_; intro w4 o4 g4; simp only [Nat.zero_add, List.nil_append] at o4; have b4 := b3.grown g4 b3.size (by intro k hk; have := b2.size; simp at hk; omega); have p4 := p3.grown g4 (by have := o2.lt; simp; omega); have o4' := o4.alloc (.cells #[.int .u8 x] 5); have p4' := p4.alloc (.cells #[.int .u8 x] 5); have b4' := b4.alloc b4.size (.cells #[.int .u8 x] 5))
    | (refine law_append rfl (.tmp 46) (.tmp 48) rfl _ n _ 1 _ _ rfl rfl (T.take n) [x] o4' (Row.one _ _) (by simp) (by omega) ?_; intro w5 o5 g5; have b5 := b4'.grown g5 b4'.size (by intro k hk; have := b2.size; simp at hk; omega); have p5 := p4'.grown g5 (by have := o2.lt; simp; omega)))
  clear o1 g1 b1 o2 g2 b2 o3 g3 b3 p3 o4 g4 b4 p4 o4' p4' b4' g5
  have hT := RT.1
  obtain ⟨G, hG⟩ : ∃ G, G = putAt T n x := ⟨_, rfl⟩
  have e1 : soe G n = (x == 32) := by rw [hG]; exact soe_put_at (by omega)
  have e2 : soe G (n + 1) = true := by rw [hG, ← hT]; exact soe_put_end (by omega)
  have E3 : Hid (∀ k, k < n → soe G k = soe T k) := fun k hk => by rw [hG]; exact soe_put_before (by omega) hk
  have E4 : Hid (∀ k, n ≤ k → soe G (k + 1) = soe T k) := fun k hk => by rw [hG]; exact soe_put_behind (by omega) hk
  have hG' : T.take n ++ [x] = G := by rw [hG, putAt, List.drop_eq_nil_of_le (by omega), List.append_nil]
  rw [hG'] at o5
  have RG := o5.row
  have RO := p5.row
  clear hG hG' hT o5 p5
  refine (f11 _ _ _ _ G _ (by omega) (by omega) RG).mono ?_
  intro e wx ⟨he, hw⟩; subst he; subst hw
  go_wp2_with fail
  refine (f11 _ _ _ _ G _ (by omega) (by omega) RG).mono ?_
  intro e wx ⟨he, hw⟩; subst he; subst hw
  go_wp2_with fail
  go_loop [9] (fun i => ∃ k : Nat, k ≤ n + 1 ∧ i = .int .i64 k) (fun i => n + 1 - (intOf i).toNat)
  case atStart => exact ⟨0, Nat.zero_le _, rfl⟩
  case round =>
    obtain ⟨k, hk, rfl⟩ := hrel
    by_cases hkn : k ≤ n
    · by_cases hkj : k < n
      · have e3 := E3.out k hkj
        go_wp2_with fail
        refine (f11 _ _ _ _ T _ (by omega) (by omega) RO).mono ?_
        intro e wx ⟨he, hw⟩; subst he; subst hw
        go_wp2_with fail
        refine (f11 _ _ _ _ G _ (by omega) (by omega) RG).mono ?_
        intro e wx ⟨he, hw⟩; subst he; subst hw
        go_wp2_with fail
        go_round
        case rel => exact ⟨k + 1, by omega, by go_num⟩
        case measure => simp [intOf]; omega
      · have e4 := E4.out k (by omega)
        go_wp2_with fail
        refine (f11 _ _ _ _ T _ (by omega) (by omega) RO).mono ?_
        intro e wx ⟨he, hw⟩; subst he; subst hw
        go_wp2_with fail
        refine (f11 _ _ _ _ G _ (by omega) (by omega) RG).mono ?_
        intro e wx ⟨he, hw⟩; subst he; subst hw
        go_wp2_with fail
        go_round
        case rel => exact ⟨k + 1, by omega, by go_num⟩
        case measure => simp [intOf]; omega
    · go_wp2_with fail
      go_ret
      exact ⟨rfl, b5⟩

set_option maxHeartbeats 1000000 in
theorem walk_nil (x : Int) (w : World) :
    Calls Trym.prog 5 #[.slice Option.none 0 0, .int .i64 0, .int .u8 x] w fun e w' => e = .returned (.bool true) ∧ Below w.heap.size w w' := by
  have q22 := fun (w : World) (a : Option Addr) (n c n' c' : Nat) => run_neq_slice_nil_any (P := Trym.prog) w 22 5 a n c n' c' Trym.underlying22
  go_enter Trym.func5, Trym.ntmps5
  go_wp2_with fail
  refine (f12_yes _ _ _ _ _ _ (by omega)).mono ?_
  intro e w' ⟨he, hw⟩
  subst he; subst hw
  have b2 := Below.refl w'.heap.size w'
  go_wp2_with (first
    | (refine law_make0 rfl _ (.tmp 39) rfl _ 1 rfl rfl (by omega) (by omega) ?_; intro w3 o3 g3; have b3 := b2.grown g3 b2.size (by simp))
    | (refine law_append rfl (.tmp 41) (.tmp 44) rfl _ 0 _ 0 _ _ rfl rfl [] [] o3 (Row.nil _ _) (by simp) (by omega) ?_; intro w4 o4 g4; simp only [Nat.zero_add, List.nil_append] at o4; have b4 := b3.grown g4 b3.size (by intro k hk; have := b2.size; simp at hk; omega); have o4' := o4.alloc (.cells #[.int .u8 x] 5); have b4' := b4.alloc b4.size (.cells #[.int .u8 x] 5))
    | (refine law_append rfl (.tmp 46) (.tmp 48) rfl _ 0 _ 1 _ _ rfl rfl [] [x] o4' (Row.one _ _) (by simp) (by omega) ?_; intro w5 o5 g5; simp only [Nat.zero_add, List.nil_append] at o5; have b5 := b4'.grown g5 b4'.size (by intro k hk; have := b2.size; simp at hk; omega))
    | (refine law_append_to rfl (.tmp 50) (.tmp 53) rfl _ 1 _ 0 _ _ rfl rfl [x] [] o5 (Row.nil _ _) (by simp) 1 (by omega) [x] rfl (by omega) ?_; intro w6 o6 g6; have b6 := b5.grown g6 b5.size (by intro k hk; have := b2.size; simp at hk; omega)))
  have RG := o6.row
  clear b2 o3 g3 b3 o4 g4 b4 o4' b4' o5 g5 b5 g6 o6
  have e1 : soe [x] 0 = (x == 32) := by simp [soe]
  have e2 : soe [x] 1 = true := by simp [soe]
  have e3 : soe [] 0 = true := by simp [soe]
  refine (f11 _ _ _ _ [x] _ (by omega) (by omega) RG).mono ?_
  intro e wx ⟨he, hw⟩; subst he; subst hw
  go_wp2_with fail
  refine (f11 _ _ _ _ [x] _ (by omega) (by omega) RG).mono ?_
  intro e wx ⟨he, hw⟩; subst he; subst hw
  go_wp2_with fail
  go_loop [9] (fun i => ∃ k : Nat, k ≤ 1 ∧ i = .int .i64 k) (fun i => 1 - (intOf i).toNat)
  case atStart => exact ⟨0, Nat.zero_le _, rfl⟩
  case round =>
    obtain ⟨k, hk, rfl⟩ := hrel
    by_cases hkn : k = 0
    · subst hkn
      go_wp2_with fail
      refine (f11 _ _ 0 _ [] _ (by omega) (by omega) (Row.nil _ _)).mono ?_
      intro e wx ⟨he, hw⟩; subst he; subst hw
      go_wp2_with fail
      refine (f11 _ _ _ _ [x] _ (by omega) (by omega) RG).mono ?_
      intro e wx ⟨he, hw⟩; subst he; subst hw
      go_wp2_with fail
      go_round
      case rel => exact ⟨1, by omega, by go_num⟩
      case measure => simp [intOf]
    · obtain rfl : k = 1 := by omega
      go_wp2_with fail
      go_ret
      exact ⟨rfl, b6⟩

end Go.Proofs.Qxb6612827aMods.PutWalks
