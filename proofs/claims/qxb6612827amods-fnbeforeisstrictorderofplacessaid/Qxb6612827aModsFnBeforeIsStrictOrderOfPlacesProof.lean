/-
  THE PROOF OF 'Rows.FnBeforeIsStrictOrderOfPlacesSaid'. The frame (the row's step) is the guide's template as proof-skeleton.mjs wrote it for this function; the walk is filled in here, over the contracts of the functions that it calls.
-/
import Derived.Test.Qxb6612827aModsRows
import Derived.WalkKit
import Derived.ProofKit
import Derived.OpenShut
import Derived.ShutString
import Derived.Test.Qxb6612827aModsOrderWalks
namespace Go.Proofs.Qxb6612827aMods.fnBeforeIsStrictOrderOfPlaces
open Go.ChangeShapes Go.WideShapes Go.ChangeAt Go.RowKit
open Go.ChangeMaps (open_string shut_string)
open Before OrderWalks
set_option linter.unusedVariables false      -- a walk need not use every 'w<i>' (that an integer argument fits its kind)

theorem own : ownKnob Trym.prog.godebug = none := by kernel_rfl

/-! ### STEP 1: THE WALK: the Go text returns true. 'Grown w w'': the world has at most new blocks (Derived/RowKit3.lean). Part the cases AHEAD of 'go_enter' where a test parts the walk; take each callee by a contract of your own. -/
theorem walk (a0 : Int) (a1 : Int) (a2 : Int) (a3 : Int) (a4 : Int) (a5 : Int) (w0 : (Lit.int .i64 a0).wf = true) (w1 : (Lit.int .i64 a1).wf = true) (w2 : (Lit.int .i64 a2).wf = true) (w3 : (Lit.int .i64 a3).wf = true) (w4 : (Lit.int .i64 a4).wf = true) (w5 : (Lit.int .i64 a5).wf = true) (w : World) :
    Calls Trym.prog 6 #[.int .i64 a0, .int .i64 a1, .int .i64 a2, .int .i64 a3, .int .i64 a4, .int .i64 a5] w fun e w' => e = .returned (.bool true) ∧ Grown w w' := by
  by_cases h : a0 < 1 ∨ a1 < 1 ∨ a2 < 1 ∨ a3 < 1 ∨ a4 < 1 ∨ a5 < 1
  · exact walk_small a0 a1 a2 a3 a4 a5 w h
  · have p0 : 1 ≤ a0 := by omega
    have p1 : 1 ≤ a1 := by omega
    have p2 : 1 ≤ a2 := by omega
    have p3 : 1 ≤ a3 := by omega
    have p4 : 1 ≤ a4 := by omega
    have p5 : 1 ≤ a5 := by omega
    by_cases hl : a0 < a2
    · by_cases k : bef a2 a3 a4 a5 = true
      · exact walk_line_yes a0 a1 a2 a3 a4 a5 w p0 p1 p2 p3 p4 p5 hl k
      · exact walk_line_no a0 a1 a2 a3 a4 a5 w p0 p1 p2 p3 p4 p5 hl (Bool.eq_false_iff.2 k)
    by_cases hb : a2 < a0
    · exact walk_line_back a0 a1 a2 a3 a4 a5 w p0 p1 p2 p3 p4 p5 hb
    obtain rfl : a0 = a2 := by omega
    by_cases hc : a1 < a3
    · by_cases k : bef a0 a3 a4 a5 = true
      · exact walk_col_yes a0 a1 a3 a4 a5 w p0 p1 p3 p4 p5 hc k
      · exact walk_col_no a0 a1 a3 a4 a5 w p0 p1 p3 p4 p5 hc (Bool.eq_false_iff.2 k)
    by_cases hd : a3 < a1
    · exact walk_col_back a0 a1 a3 a4 a5 w p0 p1 p3 p4 p5 hd
    obtain rfl : a1 = a3 := by omega
    exact walk_same a0 a1 a4 a5 w p0 p1 p4 p5

/-! ### THE ROW's STEP: WRITTEN OUT: LEAVE IT -/
set_option maxRecDepth 100000 in
theorem lifted (os : Os) (started : os.Started) (H : Type) (enc : TypeId × Value → H) :
    ReturnsInHanded {} Trym.checked os 6 .any (Rows.fnBeforeIsStrictOrderOfPlacesSpec.pre6 enc Trym.prog Trym.f6 Rows.fnBeforeIsStrictOrderOfPlacesRow.domain false) (Rows.fnBeforeIsStrictOrderOfPlacesSpec.post enc Trym.prog Trym.f6 false true false false) := by
  refine returnsInHanded_of_change (C := Trym.checked) own started (by kernel_rfl) Trym.func6
    (ChangeSpec.witness6 (enc := enc) (C := Trym.checked) false ⟨#[], #[.int .i64 0, .int .i64 0, .int .i64 0, .int .i64 0, .int .i64 0, .int .i64 0], []⟩ 8 (by kernel_rfl) (by kernel_rfl) (by kernel_rfl) (by kernel_rfl)) ?_
  intro W base args ds gs before hval0 hW hcnd _
  have hval : ∀ (j : Nat) t v, Trym.f6.params[j]? = some t → args[j]? = some v → Value.okWide Trym.prog W .any base t v := hval0
  have hW' := hW
  obtain ⟨p, q, hA0, hV, rfl, hfz, hnd⟩ := hW
  have hA : DataW.TrodAll enc Trym.prog W 0 (fun _ => true) true Trym.f6.params.toList args.toList ds p := hA0
  rw [Trym.params6] at hA hval
  obtain ⟨v0, vs0, d0, ds0, p0, q0, hargs, rfl, rfl, h0, r0⟩ := trodAll_cons hA
  obtain ⟨v1, vs1, d1, ds1, p1, q1, rfl, rfl, rfl, h1, r1⟩ := trodAll_cons r0
  obtain ⟨v2, vs2, d2, ds2, p2, q2, rfl, rfl, rfl, h2, r2⟩ := trodAll_cons r1
  obtain ⟨v3, vs3, d3, ds3, p3, q3, rfl, rfl, rfl, h3, r3⟩ := trodAll_cons r2
  obtain ⟨v4, vs4, d4, ds4, p4, q4, rfl, rfl, rfl, h4, r4⟩ := trodAll_cons r3
  obtain ⟨v5, vs5, d5, ds5, p5, q5, rfl, rfl, rfl, h5, r5⟩ := trodAll_cons r4
  obtain ⟨rfl, rfl, rfl⟩ := trodAll_nil r5
  obtain rfl : args = #[v0, v1, v2, v3, v4, v5] := by cases args; simp_all
  obtain ⟨rfl, rfl⟩ := trodVars_none hV
  obtain ⟨a0, rfl, rfl, rfl, w0⟩ := open_int Trym.underlying3 (hval 0 3 v0 rfl rfl) h0
  obtain ⟨a1, rfl, rfl, rfl, w1⟩ := open_int Trym.underlying3 (hval 1 3 v1 rfl rfl) h1
  obtain ⟨a2, rfl, rfl, rfl, w2⟩ := open_int Trym.underlying3 (hval 2 3 v2 rfl rfl) h2
  obtain ⟨a3, rfl, rfl, rfl, w3⟩ := open_int Trym.underlying3 (hval 3 3 v3 rfl rfl) h3
  obtain ⟨a4, rfl, rfl, rfl, w4⟩ := open_int Trym.underlying3 (hval 4 3 v4 rfl rfl) h4
  obtain ⟨a5, rfl, rfl, rfl, w5⟩ := open_int Trym.underlying3 (hval 5 3 v5 rfl rfl) h5
  clear hA0 hval0
  simp only [List.append_nil] at hW'
  refine (walk a0 a1 a2 a3 a4 a5 w0 w1 w2 w3 w4 w5 W).mono fun e W' ⟨he, hg⟩ => ?_
  subst he
  exact ⟨_, rfl, post_of_same (pa := []) (pv := []) hW' (fun _ _ _ => (trodAll_cons_mk (shut_bool Trym.underlying4 _) trodAll_mk0)) (fun sp _ => (trodAll_cons_mk (shut_int Trym.underlying3 w0) (trodAll_cons_mk (shut_int Trym.underlying3 w1) (trodAll_cons_mk (shut_int Trym.underlying3 w2) (trodAll_cons_mk (shut_int Trym.underlying3 w3) (trodAll_cons_mk (shut_int Trym.underlying3 w4) (trodAll_cons_mk (shut_int Trym.underlying3 w5) trodAll_mk0))))))) (fun _ _ => rfl) rfl
    (hg.frame _) hg.2.1 (ok_one (by kernel_rfl) rfl (okWide_bool_mk Trym.underlying4 _))⟩

theorem over : Rows.fnBeforeIsStrictOrderOfPlacesRow.holds Trym.pinned (OpenSpec.ofChange Rows.fnBeforeIsStrictOrderOfPlacesSpec) :=
  OpenClaim.holds_of_wide 6 Trym.f6 rfl rfl rfl rfl rfl rfl rfl ⟨rfl, rfl, rfl, rfl, rfl⟩ rfl rfl rfl rfl rfl (by kernel_rfl) Trym.func6 (by kernel_rfl)
    (of_decide_eq_true (by kernel_rfl)) (by unfold Func.isWrapper; first | (rw [if_pos (by decide +kernel)]; kernel_rfl) | (rw [if_neg (by decide +kernel)]; exact ⟨rfl, rfl⟩))
    (fun os started H enc _ => lifted os started H enc)

/-- ████ THE STATEMENT ████ -/
theorem proved : Rows.FnBeforeIsStrictOrderOfPlacesSaid :=
  over
#print axioms proved
end Go.Proofs.Qxb6612827aMods.fnBeforeIsStrictOrderOfPlaces
