/-
  No cell of these rows narrows 'for every input' (looked for: loops, veiled, ifaces, maps, wideKeys, modest, calm, conditions, laid).
  DERIVED. THE GIVEN ROWS OF THIS SEAT. 4 by the template 'for every input the law returns true; each argument reads behind the call as it read before'; 0 by the template 'total and deterministic' (their statements: Qxb6600233aTotals.lean).
  GIVEN WITH THE SEED: the statements are not yours to turn. If you find one false, say at which input.
  Laid BY PROGRAM, IN A SANDBOX (cutbox-rows.mjs): the forced cells as the released guide's own fill.sh prints them over the translation 2d9caff1766224d9… (all of the seat's roots in one cut). By AI agents, Wed Nov 11 2026. No macro, syntax, notation, axiom, sorry.
-/
import Derived.Test.Qxb6600233aChecked
import GoSem.Claim
import GoSem.ClaimJoined
import GoSem.ClaimMapViews
import Derived.JoinedTies
import Derived.KernelRfl
namespace Go.Proofs.Qxb6600233a
/- THE CELL 'sum', in the pinned program and in every row, IS THE sha256 OF THE DUMP (.gsa) THAT Qxb6600233aProg.lean LOADS. Nothing in Lean hashes anything: it is a label: what it is worth is what the hold of that sum in a sandbox is worth. -/
noncomputable def Try.pinned : Pinned := { name := "qxb6600233a", sum := "2d9caff1766224d9664716d898047d0132a5d24777d89796db6727d266cd8385", checked := Try.checked }
namespace Rows
def none {H : Type} : Left H := { results := [], args := [] }

/-- 'zzlaws_internal_control_b1.FnSettingsOperationHidesValues': WHATEVER THE INPUT: true; the input reads as it did. -/
def fnSettingsOperationHidesValuesSpec : ChangeSpec := { name := "fnSettingsOperationHidesValues", fn := fun _ => fun
  | [d1, d2, d3] => { results := [.lit (.bool true)], args := [d1, d2, d3] }
  | _ => none }
def fnSettingsOperationHidesValuesRow : OpenClaim := { program := "qxb6600233a", sum := "2d9caff1766224d9664716d898047d0132a5d24777d89796db6727d266cd8385", func := "example.com/crossfade/crossfade/zzlaws_internal_control_b1.FnSettingsOperationHidesValues", spec := "fnSettingsOperationHidesValues", unfollowed := true, recurses := true, apart := false }
def FnSettingsOperationHidesValuesSaid : Prop := fnSettingsOperationHidesValuesRow.holds Try.pinned (OpenSpec.ofChange fnSettingsOperationHidesValuesSpec)

/-- ITS FALSE NEIGHBOUR: 'it returns false'. Refute it at one input. -/
def fnSettingsOperationHidesValuesWrong : ChangeSpec := { name := "fnSettingsOperationHidesValues", fn := fun _ => fun
  | [d1, d2, d3] => { results := [.lit (.bool false)], args := [d1, d2, d3] }
  | _ => none }
def FnSettingsOperationHidesValuesWrongFalsely : Prop := fnSettingsOperationHidesValuesRow.holds Try.pinned (OpenSpec.ofChange fnSettingsOperationHidesValuesWrong)

/-- 'zzlaws_internal_control_b1.FnSettingNamesExact': WHATEVER THE INPUT: true; the input reads as it did. -/
def fnSettingNamesExactSpec : ChangeSpec := { name := "fnSettingNamesExact", fn := fun _ => fun
  | [d1, d2] => { results := [.lit (.bool true)], args := [d1, d2] }
  | _ => none }
def fnSettingNamesExactRow : OpenClaim := { program := "qxb6600233a", sum := "2d9caff1766224d9664716d898047d0132a5d24777d89796db6727d266cd8385", func := "example.com/crossfade/crossfade/zzlaws_internal_control_b1.FnSettingNamesExact", spec := "fnSettingNamesExact", inPlace := ["internal/abi.NoEscape", "internal/bytealg.MakeNoZero"], unfollowed := true, recurses := true, apart := false }
def FnSettingNamesExactSaid : Prop := fnSettingNamesExactRow.holds Try.pinned (OpenSpec.ofChange fnSettingNamesExactSpec)

/-- ITS FALSE NEIGHBOUR: 'it returns false'. Refute it at one input. -/
def fnSettingNamesExactWrong : ChangeSpec := { name := "fnSettingNamesExact", fn := fun _ => fun
  | [d1, d2] => { results := [.lit (.bool false)], args := [d1, d2] }
  | _ => none }
def FnSettingNamesExactWrongFalsely : Prop := fnSettingNamesExactRow.holds Try.pinned (OpenSpec.ofChange fnSettingNamesExactWrong)

/-- 'zzlaws_internal_control_b1.FnSettingNamesHidesValues': WHATEVER THE INPUT: true; the input reads as it did. -/
def fnSettingNamesHidesValuesSpec : ChangeSpec := { name := "fnSettingNamesHidesValues", fn := fun _ => fun
  | [d1, d2] => { results := [.lit (.bool true)], args := [d1, d2] }
  | _ => none }
def fnSettingNamesHidesValuesRow : OpenClaim := { program := "qxb6600233a", sum := "2d9caff1766224d9664716d898047d0132a5d24777d89796db6727d266cd8385", func := "example.com/crossfade/crossfade/zzlaws_internal_control_b1.FnSettingNamesHidesValues", spec := "fnSettingNamesHidesValues", inPlace := ["internal/abi.NoEscape", "internal/bytealg.MakeNoZero"], unfollowed := true, recurses := true, apart := false }
def FnSettingNamesHidesValuesSaid : Prop := fnSettingNamesHidesValuesRow.holds Try.pinned (OpenSpec.ofChange fnSettingNamesHidesValuesSpec)

/-- ITS FALSE NEIGHBOUR: 'it returns false'. Refute it at one input. -/
def fnSettingNamesHidesValuesWrong : ChangeSpec := { name := "fnSettingNamesHidesValues", fn := fun _ => fun
  | [d1, d2] => { results := [.lit (.bool false)], args := [d1, d2] }
  | _ => none }
def FnSettingNamesHidesValuesWrongFalsely : Prop := fnSettingNamesHidesValuesRow.holds Try.pinned (OpenSpec.ofChange fnSettingNamesHidesValuesWrong)

/-- 'zzlaws_internal_control_b1.FnSettingNamesSplits': WHATEVER THE INPUT: true; the input reads as it did. -/
def fnSettingNamesSplitsSpec : ChangeSpec := { name := "fnSettingNamesSplits", fn := fun _ => fun
  | [d1, d2, d3] => { results := [.lit (.bool true)], args := [d1, d2, d3] }
  | _ => none }
def fnSettingNamesSplitsRow : OpenClaim := { program := "qxb6600233a", sum := "2d9caff1766224d9664716d898047d0132a5d24777d89796db6727d266cd8385", func := "example.com/crossfade/crossfade/zzlaws_internal_control_b1.FnSettingNamesSplits", spec := "fnSettingNamesSplits", inPlace := ["internal/abi.NoEscape", "internal/bytealg.MakeNoZero"], unfollowed := true, recurses := true, apart := false }
def FnSettingNamesSplitsSaid : Prop := fnSettingNamesSplitsRow.holds Try.pinned (OpenSpec.ofChange fnSettingNamesSplitsSpec)

/-- ITS FALSE NEIGHBOUR: 'it returns false'. Refute it at one input. -/
def fnSettingNamesSplitsWrong : ChangeSpec := { name := "fnSettingNamesSplits", fn := fun _ => fun
  | [d1, d2, d3] => { results := [.lit (.bool false)], args := [d1, d2, d3] }
  | _ => none }
def FnSettingNamesSplitsWrongFalsely : Prop := fnSettingNamesSplitsRow.holds Try.pinned (OpenSpec.ofChange fnSettingNamesSplitsWrong)

end Rows
end Go.Proofs.Qxb6600233a
