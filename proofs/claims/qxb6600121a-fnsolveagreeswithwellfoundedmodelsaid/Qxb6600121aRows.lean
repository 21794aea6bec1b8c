/-
  No cell of these rows narrows 'for every input' (looked for: loops, veiled, ifaces, maps, wideKeys, modest, calm, conditions, laid).
  DERIVED. THE GIVEN ROWS OF THIS SEAT. 7 by the template 'for every input the law returns true; each argument reads behind the call as it read before'; 0 by the template 'total and deterministic' (their statements: Qxb6600121aTotals.lean).
  GIVEN WITH THE SEED: the statements are not yours to turn. If you find one false, say at which input.
  Laid BY PROGRAM, IN A SANDBOX (cutbox-rows.mjs): the forced cells as the released guide's own fill.sh prints them over the translation f50b6c4daedf4d61… (all of the seat's roots in one cut). By AI agents, Wed Nov 11 2026. No macro, syntax, notation, axiom, sorry.
-/
import Derived.Test.Qxb6600121aChecked
import GoSem.Claim
import GoSem.ClaimJoined
import GoSem.ClaimMapViews
import Derived.JoinedTies
import Derived.KernelRfl
namespace Go.Proofs.Qxb6600121a
/- THE CELL 'sum', in the pinned program and in every row, IS THE sha256 OF THE DUMP (.gsa) THAT Qxb6600121aProg.lean LOADS. Nothing in Lean hashes anything: it is a label: what it is worth is what the hold of that sum in a sandbox is worth. -/
noncomputable def Try.pinned : Pinned := { name := "qxb6600121a", sum := "f50b6c4daedf4d611f44e093d261c8ba3d733ff2d591a0caffc84c763a5f1b5e", checked := Try.checked }
namespace Rows
def none {H : Type} : Left H := { results := [], args := [] }

/-- 'zzlaws_internal_wellfounded_b1.FnComponentsPartitionAtoms': WHATEVER THE INPUT: true; the input reads as it did. -/
def fnComponentsPartitionAtomsSpec : ChangeSpec := { name := "fnComponentsPartitionAtoms", fn := fun _ => fun
  | [d1, d2] => { results := [.lit (.bool true)], args := [d1, d2] }
  | _ => none }
def fnComponentsPartitionAtomsRow : OpenClaim := { program := "qxb6600121a", sum := "f50b6c4daedf4d611f44e093d261c8ba3d733ff2d591a0caffc84c763a5f1b5e", func := "example.com/coherent-schema/coherent-schema/zzlaws_internal_wellfounded_b1.FnComponentsPartitionAtoms", spec := "fnComponentsPartitionAtoms", unfollowed := true, recurses := true, apart := false }
def FnComponentsPartitionAtomsSaid : Prop := fnComponentsPartitionAtomsRow.holds Try.pinned (OpenSpec.ofChange fnComponentsPartitionAtomsSpec)

/-- ITS FALSE NEIGHBOUR: 'it returns false'. Refute it at one input. -/
def fnComponentsPartitionAtomsWrong : ChangeSpec := { name := "fnComponentsPartitionAtoms", fn := fun _ => fun
  | [d1, d2] => { results := [.lit (.bool false)], args := [d1, d2] }
  | _ => none }
def FnComponentsPartitionAtomsWrongFalsely : Prop := fnComponentsPartitionAtomsRow.holds Try.pinned (OpenSpec.ofChange fnComponentsPartitionAtomsWrong)

/-- 'zzlaws_internal_wellfounded_b1.FnComponentsFollowDependencies': WHATEVER THE INPUT: true; the input reads as it did. -/
def fnComponentsFollowDependenciesSpec : ChangeSpec := { name := "fnComponentsFollowDependencies", fn := fun _ => fun
  | [d1, d2] => { results := [.lit (.bool true)], args := [d1, d2] }
  | _ => none }
def fnComponentsFollowDependenciesRow : OpenClaim := { program := "qxb6600121a", sum := "f50b6c4daedf4d611f44e093d261c8ba3d733ff2d591a0caffc84c763a5f1b5e", func := "example.com/coherent-schema/coherent-schema/zzlaws_internal_wellfounded_b1.FnComponentsFollowDependencies", spec := "fnComponentsFollowDependencies", unfollowed := true, recurses := true, apart := false }
def FnComponentsFollowDependenciesSaid : Prop := fnComponentsFollowDependenciesRow.holds Try.pinned (OpenSpec.ofChange fnComponentsFollowDependenciesSpec)

/-- ITS FALSE NEIGHBOUR: 'it returns false'. Refute it at one input. -/
def fnComponentsFollowDependenciesWrong : ChangeSpec := { name := "fnComponentsFollowDependencies", fn := fun _ => fun
  | [d1, d2] => { results := [.lit (.bool false)], args := [d1, d2] }
  | _ => none }
def FnComponentsFollowDependenciesWrongFalsely : Prop := fnComponentsFollowDependenciesRow.holds Try.pinned (OpenSpec.ofChange fnComponentsFollowDependenciesWrong)

/-- 'zzlaws_internal_wellfounded_b1.FnComponentsAreStronglyConnected': WHATEVER THE INPUT: true; the input reads as it did. -/
def fnComponentsAreStronglyConnectedSpec : ChangeSpec := { name := "fnComponentsAreStronglyConnected", fn := fun _ => fun
  | [d1, d2] => { results := [.lit (.bool true)], args := [d1, d2] }
  | _ => none }
def fnComponentsAreStronglyConnectedRow : OpenClaim := { program := "qxb6600121a", sum := "f50b6c4daedf4d611f44e093d261c8ba3d733ff2d591a0caffc84c763a5f1b5e", func := "example.com/coherent-schema/coherent-schema/zzlaws_internal_wellfounded_b1.FnComponentsAreStronglyConnected", spec := "fnComponentsAreStronglyConnected", unfollowed := true, recurses := true, apart := false }
def FnComponentsAreStronglyConnectedSaid : Prop := fnComponentsAreStronglyConnectedRow.holds Try.pinned (OpenSpec.ofChange fnComponentsAreStronglyConnectedSpec)

/-- ITS FALSE NEIGHBOUR: 'it returns false'. Refute it at one input. -/
def fnComponentsAreStronglyConnectedWrong : ChangeSpec := { name := "fnComponentsAreStronglyConnected", fn := fun _ => fun
  | [d1, d2] => { results := [.lit (.bool false)], args := [d1, d2] }
  | _ => none }
def FnComponentsAreStronglyConnectedWrongFalsely : Prop := fnComponentsAreStronglyConnectedRow.holds Try.pinned (OpenSpec.ofChange fnComponentsAreStronglyConnectedWrong)

/-- 'zzlaws_internal_wellfounded_b1.FnSolveAgreesWithWellFoundedModel': WHATEVER THE INPUT: true; the input reads as it did. -/
def fnSolveAgreesWithWellFoundedModelSpec : ChangeSpec := { name := "fnSolveAgreesWithWellFoundedModel", fn := fun _ => fun
  | [d1, d2] => { results := [.lit (.bool true)], args := [d1, d2] }
  | _ => none }
def fnSolveAgreesWithWellFoundedModelRow : OpenClaim := { program := "qxb6600121a", sum := "f50b6c4daedf4d611f44e093d261c8ba3d733ff2d591a0caffc84c763a5f1b5e", func := "example.com/coherent-schema/coherent-schema/zzlaws_internal_wellfounded_b1.FnSolveAgreesWithWellFoundedModel", spec := "fnSolveAgreesWithWellFoundedModel", unfollowed := true, recurses := true, apart := false }
def FnSolveAgreesWithWellFoundedModelSaid : Prop := fnSolveAgreesWithWellFoundedModelRow.holds Try.pinned (OpenSpec.ofChange fnSolveAgreesWithWellFoundedModelSpec)

/-- ITS FALSE NEIGHBOUR: 'it returns false'. Refute it at one input. -/
def fnSolveAgreesWithWellFoundedModelWrong : ChangeSpec := { name := "fnSolveAgreesWithWellFoundedModel", fn := fun _ => fun
  | [d1, d2] => { results := [.lit (.bool false)], args := [d1, d2] }
  | _ => none }
def FnSolveAgreesWithWellFoundedModelWrongFalsely : Prop := fnSolveAgreesWithWellFoundedModelRow.holds Try.pinned (OpenSpec.ofChange fnSolveAgreesWithWellFoundedModelWrong)

/-- 'zzlaws_internal_wellfounded_b1.FnSettleAgainChangesNothing': WHATEVER THE INPUT: true; the input reads as it did. -/
def fnSettleAgainChangesNothingSpec : ChangeSpec := { name := "fnSettleAgainChangesNothing", fn := fun _ => fun
  | [d1, d2] => { results := [.lit (.bool true)], args := [d1, d2] }
  | _ => none }
def fnSettleAgainChangesNothingRow : OpenClaim := { program := "qxb6600121a", sum := "f50b6c4daedf4d611f44e093d261c8ba3d733ff2d591a0caffc84c763a5f1b5e", func := "example.com/coherent-schema/coherent-schema/zzlaws_internal_wellfounded_b1.FnSettleAgainChangesNothing", spec := "fnSettleAgainChangesNothing", unfollowed := true, recurses := true, apart := false }
def FnSettleAgainChangesNothingSaid : Prop := fnSettleAgainChangesNothingRow.holds Try.pinned (OpenSpec.ofChange fnSettleAgainChangesNothingSpec)

/-- ITS FALSE NEIGHBOUR: 'it returns false'. Refute it at one input. -/
def fnSettleAgainChangesNothingWrong : ChangeSpec := { name := "fnSettleAgainChangesNothing", fn := fun _ => fun
  | [d1, d2] => { results := [.lit (.bool false)], args := [d1, d2] }
  | _ => none }
def FnSettleAgainChangesNothingWrongFalsely : Prop := fnSettleAgainChangesNothingRow.holds Try.pinned (OpenSpec.ofChange fnSettleAgainChangesNothingWrong)

/-- 'zzlaws_internal_wellfounded_b1.FnFreshSearchRefutesNone': WHATEVER THE INPUT: true; the input reads as it did. -/
def fnFreshSearchRefutesNoneSpec : ChangeSpec := { name := "fnFreshSearchRefutesNone", fn := fun _ => fun
  | [d1, d2] => { results := [.lit (.bool true)], args := [d1, d2] }
  | _ => none }
def fnFreshSearchRefutesNoneRow : OpenClaim := { program := "qxb6600121a", sum := "f50b6c4daedf4d611f44e093d261c8ba3d733ff2d591a0caffc84c763a5f1b5e", func := "example.com/coherent-schema/coherent-schema/zzlaws_internal_wellfounded_b1.FnFreshSearchRefutesNone", spec := "fnFreshSearchRefutesNone", unfollowed := true, recurses := true, apart := false }
def FnFreshSearchRefutesNoneSaid : Prop := fnFreshSearchRefutesNoneRow.holds Try.pinned (OpenSpec.ofChange fnFreshSearchRefutesNoneSpec)

/-- ITS FALSE NEIGHBOUR: 'it returns false'. Refute it at one input. -/
def fnFreshSearchRefutesNoneWrong : ChangeSpec := { name := "fnFreshSearchRefutesNone", fn := fun _ => fun
  | [d1, d2] => { results := [.lit (.bool false)], args := [d1, d2] }
  | _ => none }
def FnFreshSearchRefutesNoneWrongFalsely : Prop := fnFreshSearchRefutesNoneRow.holds Try.pinned (OpenSpec.ofChange fnFreshSearchRefutesNoneWrong)

/-- 'zzlaws_internal_wellfounded_b1.FnSourcesAreFoundedSupports': WHATEVER THE INPUT: true; the input reads as it did. -/
def fnSourcesAreFoundedSupportsSpec : ChangeSpec := { name := "fnSourcesAreFoundedSupports", fn := fun _ => fun
  | [d1, d2] => { results := [.lit (.bool true)], args := [d1, d2] }
  | _ => none }
def fnSourcesAreFoundedSupportsRow : OpenClaim := { program := "qxb6600121a", sum := "f50b6c4daedf4d611f44e093d261c8ba3d733ff2d591a0caffc84c763a5f1b5e", func := "example.com/coherent-schema/coherent-schema/zzlaws_internal_wellfounded_b1.FnSourcesAreFoundedSupports", spec := "fnSourcesAreFoundedSupports", unfollowed := true, recurses := true, apart := false }
def FnSourcesAreFoundedSupportsSaid : Prop := fnSourcesAreFoundedSupportsRow.holds Try.pinned (OpenSpec.ofChange fnSourcesAreFoundedSupportsSpec)

/-- ITS FALSE NEIGHBOUR: 'it returns false'. Refute it at one input. -/
def fnSourcesAreFoundedSupportsWrong : ChangeSpec := { name := "fnSourcesAreFoundedSupports", fn := fun _ => fun
  | [d1, d2] => { results := [.lit (.bool false)], args := [d1, d2] }
  | _ => none }
def FnSourcesAreFoundedSupportsWrongFalsely : Prop := fnSourcesAreFoundedSupportsRow.holds Try.pinned (OpenSpec.ofChange fnSourcesAreFoundedSupportsWrong)

end Rows
end Go.Proofs.Qxb6600121a
