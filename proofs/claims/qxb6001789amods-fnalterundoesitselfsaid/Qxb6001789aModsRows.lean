/-
  No cell of these rows narrows 'for every input' (looked for: loops, veiled, ifaces, maps, wideKeys, modest, calm, conditions, laid).
  DERIVED. THE GIVEN ROWS OF THIS SEAT. 6 by the template 'for every input the law returns true; each argument reads behind the call as it read before'; 0 by the template 'total and deterministic' (their statements: Qxb6001789aModsTotals.lean).
  GIVEN WITH THE SEED: the statements are not yours to turn. If you find one false, say at which input.
  Laid BY PROGRAM, IN A SANDBOX (cutbox-rows.mjs): the forced cells as the released guide's own fill.sh prints them over the translation 40ee0875365ebadb… (all of the seat's roots in one cut). By AI agents, Wed Nov 11 2026. No macro, syntax, notation, axiom, sorry.
-/
import Derived.Test.Qxb6001789aModsChecked
import GoSem.Claim
import GoSem.ClaimJoined
import GoSem.ClaimMapViews
import Derived.JoinedTies
import Derived.KernelRfl
namespace Go.Proofs.Qxb6001789aMods
/- THE CELL 'sum', in the pinned program and in every row, IS THE sha256 OF THE DUMP (.gsa) THAT Qxb6001789aModsProg.lean LOADS. Nothing in Lean hashes anything: it is a label: what it is worth is what the hold of that sum in a sandbox is worth. -/
noncomputable def Trym.pinned : Pinned := { name := "qxb6001789amods", sum := "40ee0875365ebadbde377e0cd92b3759413b1adf2b7cda92e53554909ffff6a1", checked := Trym.checked }
namespace Rows
def none {H : Type} : Left H := { results := [], args := [] }

/-- 'zzlaws_internal_faults_b1.FnAlterUndoesItself': WHATEVER THE INPUT: true; the input reads as it did. -/
def fnAlterUndoesItselfSpec : ChangeSpec := { name := "fnAlterUndoesItself", fn := fun _ => fun
  | [d] => { results := [.lit (.bool true)], args := [d] }
  | _ => none }
def fnAlterUndoesItselfRow : OpenClaim := { program := "qxb6001789amods", sum := "40ee0875365ebadbde377e0cd92b3759413b1adf2b7cda92e53554909ffff6a1", func := "example.com/parsimon/parsimon/zzlaws_internal_faults_b1.FnAlterUndoesItself", spec := "fnAlterUndoesItself", make := .lifted ["publicsums"], apart := false }
def FnAlterUndoesItselfSaid : Prop := fnAlterUndoesItselfRow.holds Trym.pinned (OpenSpec.ofChange fnAlterUndoesItselfSpec)

/-- ITS FALSE NEIGHBOUR: 'it returns false'. Refute it at one input. -/
def fnAlterUndoesItselfWrong : ChangeSpec := { name := "fnAlterUndoesItself", fn := fun _ => fun
  | [d] => { results := [.lit (.bool false)], args := [d] }
  | _ => none }
def FnAlterUndoesItselfWrongFalsely : Prop := fnAlterUndoesItselfRow.holds Trym.pinned (OpenSpec.ofChange fnAlterUndoesItselfWrong)

/-- 'zzlaws_internal_faults_b1.FnAlterDiffersByOneBit': WHATEVER THE INPUT: true; the input reads as it did. -/
def fnAlterDiffersByOneBitSpec : ChangeSpec := { name := "fnAlterDiffersByOneBit", fn := fun _ => fun
  | [d] => { results := [.lit (.bool true)], args := [d] }
  | _ => none }
def fnAlterDiffersByOneBitRow : OpenClaim := { program := "qxb6001789amods", sum := "40ee0875365ebadbde377e0cd92b3759413b1adf2b7cda92e53554909ffff6a1", func := "example.com/parsimon/parsimon/zzlaws_internal_faults_b1.FnAlterDiffersByOneBit", spec := "fnAlterDiffersByOneBit", make := .lifted ["publicsums"], apart := false }
def FnAlterDiffersByOneBitSaid : Prop := fnAlterDiffersByOneBitRow.holds Trym.pinned (OpenSpec.ofChange fnAlterDiffersByOneBitSpec)

/-- ITS FALSE NEIGHBOUR: 'it returns false'. Refute it at one input. -/
def fnAlterDiffersByOneBitWrong : ChangeSpec := { name := "fnAlterDiffersByOneBit", fn := fun _ => fun
  | [d] => { results := [.lit (.bool false)], args := [d] }
  | _ => none }
def FnAlterDiffersByOneBitWrongFalsely : Prop := fnAlterDiffersByOneBitRow.holds Trym.pinned (OpenSpec.ofChange fnAlterDiffersByOneBitWrong)

/-- 'zzlaws_internal_faults_b1.FnAlterReturnsAFreshCopy': WHATEVER THE INPUT: true; the input reads as it did. -/
def fnAlterReturnsAFreshCopySpec : ChangeSpec := { name := "fnAlterReturnsAFreshCopy", fn := fun _ => fun
  | [d] => { results := [.lit (.bool true)], args := [d] }
  | _ => none }
def fnAlterReturnsAFreshCopyRow : OpenClaim := { program := "qxb6001789amods", sum := "40ee0875365ebadbde377e0cd92b3759413b1adf2b7cda92e53554909ffff6a1", func := "example.com/parsimon/parsimon/zzlaws_internal_faults_b1.FnAlterReturnsAFreshCopy", spec := "fnAlterReturnsAFreshCopy", make := .lifted ["publicsums"], apart := false }
def FnAlterReturnsAFreshCopySaid : Prop := fnAlterReturnsAFreshCopyRow.holds Trym.pinned (OpenSpec.ofChange fnAlterReturnsAFreshCopySpec)

/-- ITS FALSE NEIGHBOUR: 'it returns false'. Refute it at one input. -/
def fnAlterReturnsAFreshCopyWrong : ChangeSpec := { name := "fnAlterReturnsAFreshCopy", fn := fun _ => fun
  | [d] => { results := [.lit (.bool false)], args := [d] }
  | _ => none }
def FnAlterReturnsAFreshCopyWrongFalsely : Prop := fnAlterReturnsAFreshCopyRow.holds Trym.pinned (OpenSpec.ofChange fnAlterReturnsAFreshCopyWrong)

/-- 'zzlaws_internal_faults_b1.FnWrongReplyChangesOnlyTheResult': WHATEVER THE INPUT: true; the input reads as it did. -/
def fnWrongReplyChangesOnlyTheResultSpec : ChangeSpec := { name := "fnWrongReplyChangesOnlyTheResult", fn := fun _ => fun
  | [d1, d2, d3, d4, d5, d6, d7, d8] => { results := [.lit (.bool true)], args := [d1, d2, d3, d4, d5, d6, d7, d8] }
  | _ => none }
def fnWrongReplyChangesOnlyTheResultRow : OpenClaim := { program := "qxb6001789amods", sum := "40ee0875365ebadbde377e0cd92b3759413b1adf2b7cda92e53554909ffff6a1", func := "example.com/parsimon/parsimon/zzlaws_internal_faults_b1.FnWrongReplyChangesOnlyTheResult", spec := "fnWrongReplyChangesOnlyTheResult", make := .lifted ["publicsums"], apart := false }
def FnWrongReplyChangesOnlyTheResultSaid : Prop := fnWrongReplyChangesOnlyTheResultRow.holds Trym.pinned (OpenSpec.ofChange fnWrongReplyChangesOnlyTheResultSpec)

/-- ITS FALSE NEIGHBOUR: 'it returns false'. Refute it at one input. -/
def fnWrongReplyChangesOnlyTheResultWrong : ChangeSpec := { name := "fnWrongReplyChangesOnlyTheResult", fn := fun _ => fun
  | [d1, d2, d3, d4, d5, d6, d7, d8] => { results := [.lit (.bool false)], args := [d1, d2, d3, d4, d5, d6, d7, d8] }
  | _ => none }
def FnWrongReplyChangesOnlyTheResultWrongFalsely : Prop := fnWrongReplyChangesOnlyTheResultRow.holds Trym.pinned (OpenSpec.ofChange fnWrongReplyChangesOnlyTheResultWrong)

/-- 'zzlaws_internal_faults_b1.FnWrongReplyUndoneByItself': WHATEVER THE INPUT: true; the input reads as it did. -/
def fnWrongReplyUndoneByItselfSpec : ChangeSpec := { name := "fnWrongReplyUndoneByItself", fn := fun _ => fun
  | [d1, d2, d3, d4, d5, d6, d7, d8] => { results := [.lit (.bool true)], args := [d1, d2, d3, d4, d5, d6, d7, d8] }
  | _ => none }
def fnWrongReplyUndoneByItselfRow : OpenClaim := { program := "qxb6001789amods", sum := "40ee0875365ebadbde377e0cd92b3759413b1adf2b7cda92e53554909ffff6a1", func := "example.com/parsimon/parsimon/zzlaws_internal_faults_b1.FnWrongReplyUndoneByItself", spec := "fnWrongReplyUndoneByItself", make := .lifted ["publicsums"], apart := false }
def FnWrongReplyUndoneByItselfSaid : Prop := fnWrongReplyUndoneByItselfRow.holds Trym.pinned (OpenSpec.ofChange fnWrongReplyUndoneByItselfSpec)

/-- ITS FALSE NEIGHBOUR: 'it returns false'. Refute it at one input. -/
def fnWrongReplyUndoneByItselfWrong : ChangeSpec := { name := "fnWrongReplyUndoneByItself", fn := fun _ => fun
  | [d1, d2, d3, d4, d5, d6, d7, d8] => { results := [.lit (.bool false)], args := [d1, d2, d3, d4, d5, d6, d7, d8] }
  | _ => none }
def FnWrongReplyUndoneByItselfWrongFalsely : Prop := fnWrongReplyUndoneByItselfRow.holds Trym.pinned (OpenSpec.ofChange fnWrongReplyUndoneByItselfWrong)

/-- 'zzlaws_internal_faults_b1.FnWrongReplyLeavesTheOriginalAlone': WHATEVER THE INPUT: true; the input reads as it did. -/
def fnWrongReplyLeavesTheOriginalAloneSpec : ChangeSpec := { name := "fnWrongReplyLeavesTheOriginalAlone", fn := fun _ => fun
  | [d1, d2, d3, d4, d5, d6, d7, d8] => { results := [.lit (.bool true)], args := [d1, d2, d3, d4, d5, d6, d7, d8] }
  | _ => none }
def fnWrongReplyLeavesTheOriginalAloneRow : OpenClaim := { program := "qxb6001789amods", sum := "40ee0875365ebadbde377e0cd92b3759413b1adf2b7cda92e53554909ffff6a1", func := "example.com/parsimon/parsimon/zzlaws_internal_faults_b1.FnWrongReplyLeavesTheOriginalAlone", spec := "fnWrongReplyLeavesTheOriginalAlone", make := .lifted ["publicsums"], apart := false }
def FnWrongReplyLeavesTheOriginalAloneSaid : Prop := fnWrongReplyLeavesTheOriginalAloneRow.holds Trym.pinned (OpenSpec.ofChange fnWrongReplyLeavesTheOriginalAloneSpec)

/-- ITS FALSE NEIGHBOUR: 'it returns false'. Refute it at one input. -/
def fnWrongReplyLeavesTheOriginalAloneWrong : ChangeSpec := { name := "fnWrongReplyLeavesTheOriginalAlone", fn := fun _ => fun
  | [d1, d2, d3, d4, d5, d6, d7, d8] => { results := [.lit (.bool false)], args := [d1, d2, d3, d4, d5, d6, d7, d8] }
  | _ => none }
def FnWrongReplyLeavesTheOriginalAloneWrongFalsely : Prop := fnWrongReplyLeavesTheOriginalAloneRow.holds Trym.pinned (OpenSpec.ofChange fnWrongReplyLeavesTheOriginalAloneWrong)

end Rows
end Go.Proofs.Qxb6001789aMods
