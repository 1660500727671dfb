/-
  THE PROOF OF 'Rows.FnWrittenAsIsIsJSONIdentitySaid'. The frame (the row's step) is the guide's template as proof-skeleton.mjs wrote it for this function; the walk is filled in here, over the contracts of the functions that it calls.
-/
import Derived.Test.Qxb6612827aModsRows
import Derived.WalkKit
import Derived.ProofKit
import Derived.OpenShut
import Derived.ShutString
import Derived.Test.Qxb6612827aModsWritten
namespace Go.Proofs.Qxb6612827aMods.fnWrittenAsIsIsJSONIdentity
open Go.ChangeShapes Go.WideShapes Go.ChangeAt Go.RowKit
open Go.ChangeMaps (open_string shut_string)
open Written
set_option linter.unusedVariables false      -- a walk need not use every 'w<i>' (that an integer argument fits its kind)

theorem own : ownKnob Trym.prog.godebug = none := by kernel_rfl

/-- The escaper's answer for a byte that is not written as it is: a slice whose length is not one. -/
theorem f8_other (c : Int) (w : World) (b0 : 0 ≤ c)
    (hp : ¬ (32 ≤ c ∧ c ≤ 127 ∧ (c == 34) = false ∧ (c == 92) = false ∧ (c == 60) = false ∧ (c == 62) = false ∧ (c == 38) = false)) :
    Calls Trym.prog 8 #[.int .u8 c] w fun e w' => (∃ n : Nat, 2 ≤ n ∧ e = .returned (.slice (some ⟨w.heap.size, 0, none⟩) n n)) ∧ Grown w w' := by
  by_cases h1 : 128 ≤ c
  · exact (f8_big c w h1).mono fun e w' h => ⟨⟨6, by decide, h.1⟩, h.2⟩
  by_cases h2 : c = 34 ∨ c = 92 ∨ c = 10 ∨ c = 13 ∨ c = 9
  · exact (f8_two c w h2).mono fun e w' h => ⟨⟨2, by decide, h.1⟩, h.2⟩
  by_cases h3 : c = 60 ∨ c = 62 ∨ c = 38
  · exact (f8_html c w h3).mono fun e w' h => ⟨⟨6, by decide, h.1⟩, h.2⟩
  by_cases h4 : c < 32
  · exact (f8_low c w b0 h4 (by simp; omega) (by simp; omega) (by simp; omega)).mono fun e w' h => ⟨⟨6, by decide, h.1⟩, h.2⟩
  · exact absurd ⟨by omega, by omega, by simp; omega, by simp; omega, by simp; omega, by simp; omega, by simp; omega⟩ hp

/-! ### STEP 1: THE WALK: the Go text returns true. 'Grown w w'': the world has at most new blocks (Derived/RowKit3.lean). Part the cases AHEAD of 'go_enter' where a test parts the walk; take each callee by a contract of your own. -/
theorem walk (a0 : Int) (w0 : (Lit.int .u8 a0).wf = true) (w : World) :
    Calls Trym.prog 3 #[.int .u8 a0] w fun e w' => e = .returned (.bool true) ∧ Grown w w' := by
  obtain ⟨b0, b1⟩ := bounds_u8 w0
  by_cases hp : 32 ≤ a0 ∧ a0 ≤ 127 ∧ (a0 == 34) = false ∧ (a0 == 92) = false ∧ (a0 == 60) = false ∧ (a0 == 62) = false ∧ (a0 == 38) = false
  · obtain ⟨h1, h2, h34, h92, h60, h62, h38⟩ := hp
    have hb : asIsB a0 = (a0 != 127) := by
      rw [Bool.eq_iff_iff]; simp at h34 h92 h60 h62 h38; simp [asIsB]; omega
    go_enter Trym.func3, Trym.ntmps3
    go_wp2_with fail
    refine (f8_plain a0 _ h1 h2 h34 h92 h60 h62 h38).mono ?_
    rintro e w' ⟨rfl, rfl⟩
    go_wp2_with fail
    refine (f9 a0 _).mono ?_
    rintro e w' ⟨rfl, rfl⟩
    go_wp2_with fail
    go_ret
    exact ⟨rfl, (Grown.refl _).alloc _ _⟩
  · have hb : asIsB a0 = false := by
      rw [Bool.eq_false_iff]; intro h; apply hp; simp [asIsB] at h; simp; omega
    have H : Hid (¬ _) := hp
    clear hp
    go_enter Trym.func3, Trym.ntmps3
    go_wp2_with fail
    refine (f8_other a0 _ b0 H.out).mono ?_
    rintro e w' ⟨⟨n, hn, rfl⟩, hg⟩
    have hn1 : ((n : Int) == 1) = false := by simp; omega
    have G : Hid (Grown _ _) := hg
    clear hg
    go_wp2_with fail
    refine (f9 a0 _).mono ?_
    rintro e w' ⟨rfl, rfl⟩
    go_wp2_with fail
    go_ret
    exact ⟨rfl, G.out⟩

/-! ### THE ROW's STEP: WRITTEN OUT: LEAVE IT -/
set_option maxRecDepth 100000 in
theorem lifted (os : Os) (started : os.Started) (H : Type) (enc : TypeId × Value → H) :
    ReturnsInHanded {} Trym.checked os 3 .any (Rows.fnWrittenAsIsIsJSONIdentitySpec.pre6 enc Trym.prog Trym.f3 Rows.fnWrittenAsIsIsJSONIdentityRow.domain false) (Rows.fnWrittenAsIsIsJSONIdentitySpec.post enc Trym.prog Trym.f3 false true false false) := by
  refine returnsInHanded_of_change (C := Trym.checked) own started (by kernel_rfl) Trym.func3
    (ChangeSpec.witness6 (enc := enc) (C := Trym.checked) false ⟨#[], #[.int .u8 0], []⟩ 8 (by kernel_rfl) (by kernel_rfl) (by kernel_rfl) (by kernel_rfl)) ?_
  intro W base args ds gs before hval0 hW hcnd _
  have hval : ∀ (j : Nat) t v, Trym.f3.params[j]? = some t → args[j]? = some v → Value.okWide Trym.prog W .any base t v := hval0
  have hW' := hW
  obtain ⟨p, q, hA0, hV, rfl, hfz, hnd⟩ := hW
  have hA : DataW.TrodAll enc Trym.prog W 0 (fun _ => true) true Trym.f3.params.toList args.toList ds p := hA0
  rw [Trym.params3] at hA hval
  obtain ⟨v0, vs0, d0, ds0, p0, q0, hargs, rfl, rfl, h0, r0⟩ := trodAll_cons hA
  obtain ⟨rfl, rfl, rfl⟩ := trodAll_nil r0
  obtain rfl : args = #[v0] := by cases args; simp_all
  obtain ⟨rfl, rfl⟩ := trodVars_none hV
  obtain ⟨a0, rfl, rfl, rfl, w0⟩ := open_int Trym.underlying5 (hval 0 5 v0 rfl rfl) h0
  clear hA0 hval0
  simp only [List.append_nil] at hW'
  refine (walk a0 w0 W).mono fun e W' ⟨he, hg⟩ => ?_
  subst he
  exact ⟨_, rfl, post_of_same (pa := []) (pv := []) hW' (fun _ _ _ => (trodAll_cons_mk (shut_bool Trym.underlying4 _) trodAll_mk0)) (fun sp _ => (trodAll_cons_mk (shut_int Trym.underlying5 w0) trodAll_mk0)) (fun _ _ => rfl) rfl
    (hg.frame _) hg.2.1 (ok_one (by kernel_rfl) rfl (okWide_bool_mk Trym.underlying4 _))⟩

theorem over : Rows.fnWrittenAsIsIsJSONIdentityRow.holds Trym.pinned (OpenSpec.ofChange Rows.fnWrittenAsIsIsJSONIdentitySpec) :=
  OpenClaim.holds_of_wide 3 Trym.f3 rfl rfl rfl rfl rfl rfl rfl ⟨rfl, rfl, rfl, rfl, rfl⟩ rfl rfl rfl rfl rfl (by kernel_rfl) Trym.func3 (by kernel_rfl)
    (of_decide_eq_true (by kernel_rfl)) (by unfold Func.isWrapper; first | (rw [if_pos (by decide +kernel)]; kernel_rfl) | (rw [if_neg (by decide +kernel)]; exact ⟨rfl, rfl⟩))
    (fun os started H enc _ => lifted os started H enc)

/-- ████ THE STATEMENT ████ -/
theorem proved : Rows.FnWrittenAsIsIsJSONIdentitySaid :=
  over
#print axioms proved
end Go.Proofs.Qxb6612827aMods.fnWrittenAsIsIsJSONIdentity
