/-
  No cell of these rows narrows 'for every input' (looked for: loops, veiled, ifaces, maps, wideKeys, modest, calm, conditions, laid).
  DERIVED. THE GIVEN ROWS OF THIS SEAT. 5 by the template 'for every input the law returns true; each argument reads behind the call as it read before'; 0 by the template 'total and deterministic' (their statements: Qxb6001761aModsTotals.lean).
  GIVEN WITH THE SEED: the statements are not yours to turn. If you find one false, say at which input.
  Laid BY PROGRAM, IN A SANDBOX (cutbox-rows.mjs): the forced cells as the released guide's own fill.sh prints them over the translation dee4ccf4d8c9e4eb… (all of the seat's roots in one cut). By AI agents, Wed Nov 11 2026. No macro, syntax, notation, axiom, sorry.
-/
import Derived.Test.Qxb6001761aModsChecked
import GoSem.Claim
import GoSem.ClaimJoined
import GoSem.ClaimMapViews
import Derived.JoinedTies
import Derived.KernelRfl
namespace Go.Proofs.Qxb6001761aMods
/- THE CELL 'sum', in the pinned program and in every row, IS THE sha256 OF THE DUMP (.gsa) THAT Qxb6001761aModsProg.lean LOADS. Nothing in Lean hashes anything: it is a label: what it is worth is what the hold of that sum in a sandbox is worth. -/
noncomputable def Trym.pinned : Pinned := { name := "qxb6001761amods", sum := "dee4ccf4d8c9e4ebb31f9e80531e94332b501c3f7b3639136f04da307f1e637f", checked := Trym.checked }
namespace Rows
def none {H : Type} : Left H := { results := [], args := [] }

/-- 'zzlaws_internal_cell_b1.FnTopEntriesMatchesFirstAppearanceModel': WHATEVER THE INPUT: true; the input reads as it did. -/
def fnTopEntriesMatchesFirstAppearanceModelSpec : ChangeSpec := { name := "fnTopEntriesMatchesFirstAppearanceModel", fn := fun _ => fun
  | [d] => { results := [.lit (.bool true)], args := [d] }
  | _ => none }
def fnTopEntriesMatchesFirstAppearanceModelRow : OpenClaim := { program := "qxb6001761amods", sum := "dee4ccf4d8c9e4ebb31f9e80531e94332b501c3f7b3639136f04da307f1e637f", func := "example.com/parsimon/parsimon/zzlaws_internal_cell_b1.FnTopEntriesMatchesFirstAppearanceModel", spec := "fnTopEntriesMatchesFirstAppearanceModel", inPlace := ["internal/bytealg.IndexByteString", "internal/bytealg.IndexString"], named := ["internal/bytealg.MaxLen"], make := .lifted ["publicsums"], apart := false }
def FnTopEntriesMatchesFirstAppearanceModelSaid : Prop := fnTopEntriesMatchesFirstAppearanceModelRow.holds Trym.pinned (OpenSpec.ofChange fnTopEntriesMatchesFirstAppearanceModelSpec)

/-- ITS FALSE NEIGHBOUR: 'it returns false'. Refute it at one input. -/
def fnTopEntriesMatchesFirstAppearanceModelWrong : ChangeSpec := { name := "fnTopEntriesMatchesFirstAppearanceModel", fn := fun _ => fun
  | [d] => { results := [.lit (.bool false)], args := [d] }
  | _ => none }
def FnTopEntriesMatchesFirstAppearanceModelWrongFalsely : Prop := fnTopEntriesMatchesFirstAppearanceModelRow.holds Trym.pinned (OpenSpec.ofChange fnTopEntriesMatchesFirstAppearanceModelWrong)

/-- 'zzlaws_internal_cell_b1.FnTopEntriesIdempotent': WHATEVER THE INPUT: true; the input reads as it did. -/
def fnTopEntriesIdempotentSpec : ChangeSpec := { name := "fnTopEntriesIdempotent", fn := fun _ => fun
  | [d] => { results := [.lit (.bool true)], args := [d] }
  | _ => none }
def fnTopEntriesIdempotentRow : OpenClaim := { program := "qxb6001761amods", sum := "dee4ccf4d8c9e4ebb31f9e80531e94332b501c3f7b3639136f04da307f1e637f", func := "example.com/parsimon/parsimon/zzlaws_internal_cell_b1.FnTopEntriesIdempotent", spec := "fnTopEntriesIdempotent", inPlace := ["internal/bytealg.IndexByteString", "internal/bytealg.IndexString"], named := ["internal/bytealg.MaxLen"], make := .lifted ["publicsums"], apart := false }
def FnTopEntriesIdempotentSaid : Prop := fnTopEntriesIdempotentRow.holds Trym.pinned (OpenSpec.ofChange fnTopEntriesIdempotentSpec)

/-- ITS FALSE NEIGHBOUR: 'it returns false'. Refute it at one input. -/
def fnTopEntriesIdempotentWrong : ChangeSpec := { name := "fnTopEntriesIdempotent", fn := fun _ => fun
  | [d] => { results := [.lit (.bool false)], args := [d] }
  | _ => none }
def FnTopEntriesIdempotentWrongFalsely : Prop := fnTopEntriesIdempotentRow.holds Trym.pinned (OpenSpec.ofChange fnTopEntriesIdempotentWrong)

/-- 'zzlaws_internal_cell_b1.FnTopEntriesAppendPlainName': WHATEVER THE INPUT: true; the input reads as it did. -/
def fnTopEntriesAppendPlainNameSpec : ChangeSpec := { name := "fnTopEntriesAppendPlainName", fn := fun _ => fun
  | [d1, d2] => { results := [.lit (.bool true)], args := [d1, d2] }
  | _ => none }
def fnTopEntriesAppendPlainNameRow : OpenClaim := { program := "qxb6001761amods", sum := "dee4ccf4d8c9e4ebb31f9e80531e94332b501c3f7b3639136f04da307f1e637f", func := "example.com/parsimon/parsimon/zzlaws_internal_cell_b1.FnTopEntriesAppendPlainName", spec := "fnTopEntriesAppendPlainName", inPlace := ["internal/bytealg.IndexByteString", "internal/bytealg.IndexString"], named := ["internal/bytealg.MaxLen"], make := .lifted ["publicsums"], apart := false }
def FnTopEntriesAppendPlainNameSaid : Prop := fnTopEntriesAppendPlainNameRow.holds Trym.pinned (OpenSpec.ofChange fnTopEntriesAppendPlainNameSpec)

/-- ITS FALSE NEIGHBOUR: 'it returns false'. Refute it at one input. -/
def fnTopEntriesAppendPlainNameWrong : ChangeSpec := { name := "fnTopEntriesAppendPlainName", fn := fun _ => fun
  | [d1, d2] => { results := [.lit (.bool false)], args := [d1, d2] }
  | _ => none }
def FnTopEntriesAppendPlainNameWrongFalsely : Prop := fnTopEntriesAppendPlainNameRow.holds Trym.pinned (OpenSpec.ofChange fnTopEntriesAppendPlainNameWrong)

/-- 'zzlaws_internal_cell_b1.FnSavingRoleCountsMatchSize': WHATEVER THE INPUT: true; the input reads as it did. -/
def fnSavingRoleCountsMatchSizeSpec : ChangeSpec := { name := "fnSavingRoleCountsMatchSize", fn := fun _ => fun
  | [d] => { results := [.lit (.bool true)], args := [d] }
  | _ => none }
def fnSavingRoleCountsMatchSizeRow : OpenClaim := { program := "qxb6001761amods", sum := "dee4ccf4d8c9e4ebb31f9e80531e94332b501c3f7b3639136f04da307f1e637f", func := "example.com/parsimon/parsimon/zzlaws_internal_cell_b1.FnSavingRoleCountsMatchSize", spec := "fnSavingRoleCountsMatchSize", make := .lifted ["publicsums"], apart := false }
def FnSavingRoleCountsMatchSizeSaid : Prop := fnSavingRoleCountsMatchSizeRow.holds Trym.pinned (OpenSpec.ofChange fnSavingRoleCountsMatchSizeSpec)

/-- ITS FALSE NEIGHBOUR: 'it returns false'. Refute it at one input. -/
def fnSavingRoleCountsMatchSizeWrong : ChangeSpec := { name := "fnSavingRoleCountsMatchSize", fn := fun _ => fun
  | [d] => { results := [.lit (.bool false)], args := [d] }
  | _ => none }
def FnSavingRoleCountsMatchSizeWrongFalsely : Prop := fnSavingRoleCountsMatchSizeRow.holds Trym.pinned (OpenSpec.ofChange fnSavingRoleCountsMatchSizeWrong)

/-- 'zzlaws_internal_cell_b1.FnSavingRoleMonotoneInId': WHATEVER THE INPUT: true; the input reads as it did. -/
def fnSavingRoleMonotoneInIdSpec : ChangeSpec := { name := "fnSavingRoleMonotoneInId", fn := fun _ => fun
  | [d1, d2, d3] => { results := [.lit (.bool true)], args := [d1, d2, d3] }
  | _ => none }
def fnSavingRoleMonotoneInIdRow : OpenClaim := { program := "qxb6001761amods", sum := "dee4ccf4d8c9e4ebb31f9e80531e94332b501c3f7b3639136f04da307f1e637f", func := "example.com/parsimon/parsimon/zzlaws_internal_cell_b1.FnSavingRoleMonotoneInId", spec := "fnSavingRoleMonotoneInId", make := .lifted ["publicsums"], apart := false }
def FnSavingRoleMonotoneInIdSaid : Prop := fnSavingRoleMonotoneInIdRow.holds Trym.pinned (OpenSpec.ofChange fnSavingRoleMonotoneInIdSpec)

/-- ITS FALSE NEIGHBOUR: 'it returns false'. Refute it at one input. -/
def fnSavingRoleMonotoneInIdWrong : ChangeSpec := { name := "fnSavingRoleMonotoneInId", fn := fun _ => fun
  | [d1, d2, d3] => { results := [.lit (.bool false)], args := [d1, d2, d3] }
  | _ => none }
def FnSavingRoleMonotoneInIdWrongFalsely : Prop := fnSavingRoleMonotoneInIdRow.holds Trym.pinned (OpenSpec.ofChange fnSavingRoleMonotoneInIdWrong)

end Rows
end Go.Proofs.Qxb6001761aMods
