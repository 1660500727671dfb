/-
  No cell of these rows narrows 'for every input' (looked for: loops, veiled, ifaces, maps, wideKeys, modest, calm, conditions, laid).
  DERIVED. THE GIVEN ROWS OF THIS SEAT. 5 by the template 'for every input the law returns true; each argument reads behind the call as it read before'; 0 by the template 'total and deterministic' (their statements: Qxb6612827aModsTotals.lean).
  GIVEN WITH THE SEED: the statements are not yours to turn. If you find one false, say at which input.
  Laid BY PROGRAM, IN A SANDBOX (cutbox-rows.mjs): the forced cells as the released guide's own fill.sh prints them over the translation f1d7896d60c5de5e… (all of the seat's roots in one cut). By AI agents, Wed Nov 11 2026. No macro, syntax, notation, axiom, sorry.
-/
import Derived.Test.Qxb6612827aModsChecked
import GoSem.Claim
import GoSem.ClaimJoined
import GoSem.ClaimMapViews
import Derived.JoinedTies
import Derived.KernelRfl
namespace Go.Proofs.Qxb6612827aMods
/- THE CELL 'sum', in the pinned program and in every row, IS THE sha256 OF THE DUMP (.gsa) THAT Qxb6612827aModsProg.lean LOADS. Nothing in Lean hashes anything: it is a label: what it is worth is what the hold of that sum in a sandbox is worth. -/
noncomputable def Trym.pinned : Pinned := { name := "qxb6612827amods", sum := "f1d7896d60c5de5ea660e9c2c797170c4203eb0bd4f0b5280c2f05fd3be677f5", checked := Trym.checked }
namespace Rows
def none {H : Type} : Left H := { results := [], args := [] }

/-- 'zzlaws_internal_manifest_b1.FnWrittenAsIsIsJSONIdentity': WHATEVER THE INPUT: true; the input reads as it did. -/
def fnWrittenAsIsIsJSONIdentitySpec : ChangeSpec := { name := "fnWrittenAsIsIsJSONIdentity", fn := fun _ => fun
  | [d] => { results := [.lit (.bool true)], args := [d] }
  | _ => none }
def fnWrittenAsIsIsJSONIdentityRow : OpenClaim := { program := "qxb6612827amods", sum := "f1d7896d60c5de5ea660e9c2c797170c4203eb0bd4f0b5280c2f05fd3be677f5", func := "example.com/ripener/ripener/zzlaws_internal_manifest_b1.FnWrittenAsIsIsJSONIdentity", spec := "fnWrittenAsIsIsJSONIdentity", make := .lifted ["publicsums"], apart := false }
def FnWrittenAsIsIsJSONIdentitySaid : Prop := fnWrittenAsIsIsJSONIdentityRow.holds Trym.pinned (OpenSpec.ofChange fnWrittenAsIsIsJSONIdentitySpec)

/-- ITS FALSE NEIGHBOUR: 'it returns false'. Refute it at one input. -/
def fnWrittenAsIsIsJSONIdentityWrong : ChangeSpec := { name := "fnWrittenAsIsIsJSONIdentity", fn := fun _ => fun
  | [d] => { results := [.lit (.bool false)], args := [d] }
  | _ => none }
def FnWrittenAsIsIsJSONIdentityWrongFalsely : Prop := fnWrittenAsIsIsJSONIdentityRow.holds Trym.pinned (OpenSpec.ofChange fnWrittenAsIsIsJSONIdentityWrong)

/-- 'zzlaws_internal_manifest_b1.FnSpaceOrEndCutAtAnyPlace': WHATEVER THE INPUT: true; the input reads as it did. -/
def fnSpaceOrEndCutAtAnyPlaceSpec : ChangeSpec := { name := "fnSpaceOrEndCutAtAnyPlace", fn := fun _ => fun
  | [d1, d2, d3] => { results := [.lit (.bool true)], args := [d1, d2, d3] }
  | _ => none }
def fnSpaceOrEndCutAtAnyPlaceRow : OpenClaim := { program := "qxb6612827amods", sum := "f1d7896d60c5de5ea660e9c2c797170c4203eb0bd4f0b5280c2f05fd3be677f5", func := "example.com/ripener/ripener/zzlaws_internal_manifest_b1.FnSpaceOrEndCutAtAnyPlace", spec := "fnSpaceOrEndCutAtAnyPlace", make := .lifted ["publicsums"], apart := false }
def FnSpaceOrEndCutAtAnyPlaceSaid : Prop := fnSpaceOrEndCutAtAnyPlaceRow.holds Trym.pinned (OpenSpec.ofChange fnSpaceOrEndCutAtAnyPlaceSpec)

/-- ITS FALSE NEIGHBOUR: 'it returns false'. Refute it at one input. -/
def fnSpaceOrEndCutAtAnyPlaceWrong : ChangeSpec := { name := "fnSpaceOrEndCutAtAnyPlace", fn := fun _ => fun
  | [d1, d2, d3] => { results := [.lit (.bool false)], args := [d1, d2, d3] }
  | _ => none }
def FnSpaceOrEndCutAtAnyPlaceWrongFalsely : Prop := fnSpaceOrEndCutAtAnyPlaceRow.holds Trym.pinned (OpenSpec.ofChange fnSpaceOrEndCutAtAnyPlaceWrong)

/-- 'zzlaws_internal_manifest_b1.FnSpaceOrEndPutOneByteAnywhere': WHATEVER THE INPUT: true; the input reads as it did. -/
def fnSpaceOrEndPutOneByteAnywhereSpec : ChangeSpec := { name := "fnSpaceOrEndPutOneByteAnywhere", fn := fun _ => fun
  | [d1, d2, d3] => { results := [.lit (.bool true)], args := [d1, d2, d3] }
  | _ => none }
def fnSpaceOrEndPutOneByteAnywhereRow : OpenClaim := { program := "qxb6612827amods", sum := "f1d7896d60c5de5ea660e9c2c797170c4203eb0bd4f0b5280c2f05fd3be677f5", func := "example.com/ripener/ripener/zzlaws_internal_manifest_b1.FnSpaceOrEndPutOneByteAnywhere", spec := "fnSpaceOrEndPutOneByteAnywhere", make := .lifted ["publicsums"], apart := false }
def FnSpaceOrEndPutOneByteAnywhereSaid : Prop := fnSpaceOrEndPutOneByteAnywhereRow.holds Trym.pinned (OpenSpec.ofChange fnSpaceOrEndPutOneByteAnywhereSpec)

/-- ITS FALSE NEIGHBOUR: 'it returns false'. Refute it at one input. -/
def fnSpaceOrEndPutOneByteAnywhereWrong : ChangeSpec := { name := "fnSpaceOrEndPutOneByteAnywhere", fn := fun _ => fun
  | [d1, d2, d3] => { results := [.lit (.bool false)], args := [d1, d2, d3] }
  | _ => none }
def FnSpaceOrEndPutOneByteAnywhereWrongFalsely : Prop := fnSpaceOrEndPutOneByteAnywhereRow.holds Trym.pinned (OpenSpec.ofChange fnSpaceOrEndPutOneByteAnywhereWrong)

/-- 'zzlaws_internal_manifest_b1.FnBeforeIsStrictOrderOfPlaces': WHATEVER THE INPUT: true; the input reads as it did. -/
def fnBeforeIsStrictOrderOfPlacesSpec : ChangeSpec := { name := "fnBeforeIsStrictOrderOfPlaces", fn := fun _ => fun
  | [d1, d2, d3, d4, d5, d6] => { results := [.lit (.bool true)], args := [d1, d2, d3, d4, d5, d6] }
  | _ => none }
def fnBeforeIsStrictOrderOfPlacesRow : OpenClaim := { program := "qxb6612827amods", sum := "f1d7896d60c5de5ea660e9c2c797170c4203eb0bd4f0b5280c2f05fd3be677f5", func := "example.com/ripener/ripener/zzlaws_internal_manifest_b1.FnBeforeIsStrictOrderOfPlaces", spec := "fnBeforeIsStrictOrderOfPlaces", make := .lifted ["publicsums"], apart := false }
def FnBeforeIsStrictOrderOfPlacesSaid : Prop := fnBeforeIsStrictOrderOfPlacesRow.holds Trym.pinned (OpenSpec.ofChange fnBeforeIsStrictOrderOfPlacesSpec)

/-- ITS FALSE NEIGHBOUR: 'it returns false'. Refute it at one input. -/
def fnBeforeIsStrictOrderOfPlacesWrong : ChangeSpec := { name := "fnBeforeIsStrictOrderOfPlaces", fn := fun _ => fun
  | [d1, d2, d3, d4, d5, d6] => { results := [.lit (.bool false)], args := [d1, d2, d3, d4, d5, d6] }
  | _ => none }
def FnBeforeIsStrictOrderOfPlacesWrongFalsely : Prop := fnBeforeIsStrictOrderOfPlacesRow.holds Trym.pinned (OpenSpec.ofChange fnBeforeIsStrictOrderOfPlacesWrong)

/-- 'zzlaws_internal_manifest_b1.FnBeforeStepForward': WHATEVER THE INPUT: true; the input reads as it did. -/
def fnBeforeStepForwardSpec : ChangeSpec := { name := "fnBeforeStepForward", fn := fun _ => fun
  | [d1, d2, d3] => { results := [.lit (.bool true)], args := [d1, d2, d3] }
  | _ => none }
def fnBeforeStepForwardRow : OpenClaim := { program := "qxb6612827amods", sum := "f1d7896d60c5de5ea660e9c2c797170c4203eb0bd4f0b5280c2f05fd3be677f5", func := "example.com/ripener/ripener/zzlaws_internal_manifest_b1.FnBeforeStepForward", spec := "fnBeforeStepForward", make := .lifted ["publicsums"], apart := false }
def FnBeforeStepForwardSaid : Prop := fnBeforeStepForwardRow.holds Trym.pinned (OpenSpec.ofChange fnBeforeStepForwardSpec)

/-- ITS FALSE NEIGHBOUR: 'it returns false'. Refute it at one input. -/
def fnBeforeStepForwardWrong : ChangeSpec := { name := "fnBeforeStepForward", fn := fun _ => fun
  | [d1, d2, d3] => { results := [.lit (.bool false)], args := [d1, d2, d3] }
  | _ => none }
def FnBeforeStepForwardWrongFalsely : Prop := fnBeforeStepForwardRow.holds Trym.pinned (OpenSpec.ofChange fnBeforeStepForwardWrong)

end Rows
end Go.Proofs.Qxb6612827aMods
