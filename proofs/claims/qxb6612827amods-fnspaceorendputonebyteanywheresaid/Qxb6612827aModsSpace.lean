/-
  THE CALLEES' CONTRACTS for the two laws on spaceOrEnd: spaceOrEnd (16), ZZspaceOrEnd (11), zzBytes_FnSpaceOrEndCutAtAnyPlace (10), zzBytes_FnSpaceOrEndPutOneByteAnywhere (12).
-/
import Derived.Test.Qxb6612827aModsProg
import Derived.WalkKit
import Derived.ProofKit
namespace Go.Proofs.Qxb6612827aMods.Space
open Go.RowKit

/-- The slice value at 'ao', of 'n' elements, reads as the bytes 'L': it is empty, or it has an address and its cells hold them. -/
def Row (w : World) (ao : Option Addr) (n : Nat) (L : List Int) : Prop :=
  L.length = n ∧ (n = 0 ∨ ∃ ad, ao = some ad ∧ ∀ i, i < n → w.cell? (ad.add i) = some (.int .u8 (L.getD i 0)))

/-- What spaceOrEnd answers. -/
def soe (L : List Int) (i : Nat) : Bool := i == L.length || L.getD i 0 == 32

theorem ret_bool {a b : Bool} (h : a = b) : Ending.returned (.bool a) = .returned (.bool b) := by rw [h]

theorem f16 (w : World) (ao : Option Addr) (n c : Nat) (L : List Int) (i : Int) (h0 : 0 ≤ i) (h1 : i ≤ n) (hr : Row w ao n L) :
    Calls Trym.prog 16 #[.slice ao n c, .int .i64 i] w fun e w' => e = .returned (.bool (soe L i.toNat)) ∧ w' = w := by
  obtain ⟨hl, hc⟩ := hr
  by_cases he : i = n
  · have hs : soe L i.toNat = true := by simp [soe, hl, he]
    rw [hs]
    subst he
    clear hs hl hc h0 h1
    go_enter Trym.func16, Trym.ntmps16
    go_wp2
    go_ret
    exact ⟨rfl, rfl⟩
  · obtain ⟨ad, rfl, hcell⟩ := hc.resolve_left (by omega)
    have hc0 := hcell 0 (by omega)
    have hci := hcell i.toNat (by omega)
    obtain ⟨b, off, spot⟩ := ad
    have hspot : spot = none := by simpa [Addr.add] using World.cell?_spot hc0
    subst hspot
    have hcl : w.cell? ⟨b, off + i.toNat, none⟩ = some (.int .u8 (L.getD i.toNat 0)) := by
      rw [← hci]
      unfold Addr.add
      split
      · rename_i hz; rw [hz]; rfl
      · rfl
    have hs : soe L i.toNat = (L.getD i.toNat 0 == 32) := by
      have : (i.toNat == L.length) = false := by simp; omega
      simp [soe, this]
    rw [hs]
    generalize L.getD i.toNat 0 = z at *
    have hne : (i == (n : Int)) = false := by simpa using he
    have hlt : i < (n : Int) := by omega
    clear hs hcell hc hc0 hci he h1 hl
    go_enter Trym.func16, Trym.ntmps16
    go_wp2
    go_ret
    exact ⟨rfl, rfl⟩

theorem f11 (w : World) (ao : Option Addr) (n c : Nat) (L : List Int) (i : Int) (h0 : 0 ≤ i) (h1 : i ≤ n) (hr : Row w ao n L) :
    Calls Trym.prog 11 #[.slice ao n c, .int .i64 i] w fun e w' => e = .returned (.bool (soe L i.toNat)) ∧ w' = w := by
  have H : Hid (Row w ao n L) := hr
  clear hr
  go_enter Trym.func11, Trym.ntmps11
  go_wp2_with fail
  refine (f16 w ao n c L i h0 h1 H.out).mono ?_
  rintro e w' ⟨rfl, rfl⟩
  go_wp2
  go_ret
  exact ⟨rfl, rfl⟩

/-- The bound on the total length: met. -/
theorem f10_yes (w : World) (a0 a1 : Option Addr) (n0 c0 n1 c1 : Nat) (k : Int) (h : n0 + n1 ≤ 1048576) :
    Calls Trym.prog 10 #[.slice a0 n0 c0, .slice a1 n1 c1, .int .i64 k] w fun e w' => e = .returned (.bool true) ∧ w' = w := by
  go_enter Trym.func10, Trym.ntmps10
  go_wp2
  go_ret
  exact ⟨rfl, rfl⟩

theorem f10_no (w : World) (a0 a1 : Option Addr) (n0 c0 n1 c1 : Nat) (k : Int) (m0 : n0 ≤ maxLen) (m1 : n1 ≤ maxLen) (h : ¬ n0 + n1 ≤ 1048576) :
    Calls Trym.prog 10 #[.slice a0 n0 c0, .slice a1 n1 c1, .int .i64 k] w fun e w' => e = .returned (.bool false) ∧ w' = w := by
  unfold maxLen at m0 m1
  go_enter Trym.func10, Trym.ntmps10
  go_wp2
  all_goals
    go_ret
    exact ⟨rfl, rfl⟩

theorem f12_yes (w : World) (a0 : Option Addr) (n0 c0 : Nat) (j x : Int) (h : n0 ≤ 1048576) :
    Calls Trym.prog 12 #[.slice a0 n0 c0, .int .i64 j, .int .u8 x] w fun e w' => e = .returned (.bool true) ∧ w' = w := by
  go_enter Trym.func12, Trym.ntmps12
  go_wp2
  go_ret
  exact ⟨rfl, rfl⟩

theorem f12_no (w : World) (a0 : Option Addr) (n0 c0 : Nat) (j x : Int) (h : ¬ n0 ≤ 1048576) :
    Calls Trym.prog 12 #[.slice a0 n0 c0, .int .i64 j, .int .u8 x] w fun e w' => e = .returned (.bool false) ∧ w' = w := by
  go_enter Trym.func12, Trym.ntmps12
  go_wp2
  go_ret
  exact ⟨rfl, rfl⟩

end Go.Proofs.Qxb6612827aMods.Space
