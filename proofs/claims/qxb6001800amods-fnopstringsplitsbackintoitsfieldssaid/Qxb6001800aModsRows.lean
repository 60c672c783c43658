/-
  No cell of these rows narrows 'for every input' (looked for: loops, veiled, ifaces, maps, wideKeys, modest, calm, conditions, laid).
  DERIVED. THE GIVEN ROWS OF THIS SEAT. 3 by the template 'for every input the law returns true; each argument reads behind the call as it read before'; 0 by the template 'total and deterministic' (their statements: Qxb6001800aModsTotals.lean).
  GIVEN WITH THE SEED: the statements are not yours to turn. If you find one false, say at which input.
  Laid BY PROGRAM, IN A SANDBOX (cutbox-rows.mjs): the forced cells as the released guide's own fill.sh prints them over the translation 12e482b7f813a528… (all of the seat's roots in one cut). By AI agents, Wed Nov 11 2026. No macro, syntax, notation, axiom, sorry.
-/
import Derived.Test.Qxb6001800aModsChecked
import GoSem.Claim
import GoSem.ClaimJoined
import GoSem.ClaimMapViews
import Derived.JoinedTies
import Derived.KernelRfl
namespace Go.Proofs.Qxb6001800aMods
/- THE CELL 'sum', in the pinned program and in every row, IS THE sha256 OF THE DUMP (.gsa) THAT Qxb6001800aModsProg.lean LOADS. Nothing in Lean hashes anything: it is a label: what it is worth is what the hold of that sum in a sandbox is worth. -/
noncomputable def Trym.pinned : Pinned := { name := "qxb6001800amods", sum := "12e482b7f813a52868f790922ade9d507e46089a70676be6a44e58af006c12a2", checked := Trym.checked }
namespace Rows
def none {H : Type} : Left H := { results := [], args := [] }

/-- 'zzlaws_internal_kv_b1.FnOpStringSplitsBackIntoItsFields': WHATEVER THE INPUT: true; the input reads as it did. -/
def fnOpStringSplitsBackIntoItsFieldsSpec : ChangeSpec := { name := "fnOpStringSplitsBackIntoItsFields", fn := fun _ => fun
  | [d1, d2, d3] => { results := [.lit (.bool true)], args := [d1, d2, d3] }
  | _ => none }
def fnOpStringSplitsBackIntoItsFieldsRow : OpenClaim := { program := "qxb6001800amods", sum := "12e482b7f813a52868f790922ade9d507e46089a70676be6a44e58af006c12a2", func := "example.com/parsimon/parsimon/zzlaws_internal_kv_b1.FnOpStringSplitsBackIntoItsFields", spec := "fnOpStringSplitsBackIntoItsFields", make := .lifted ["publicsums"], apart := false }
def FnOpStringSplitsBackIntoItsFieldsSaid : Prop := fnOpStringSplitsBackIntoItsFieldsRow.holds Trym.pinned (OpenSpec.ofChange fnOpStringSplitsBackIntoItsFieldsSpec)

/-- ITS FALSE NEIGHBOUR: 'it returns false'. Refute it at one input. -/
def fnOpStringSplitsBackIntoItsFieldsWrong : ChangeSpec := { name := "fnOpStringSplitsBackIntoItsFields", fn := fun _ => fun
  | [d1, d2, d3] => { results := [.lit (.bool false)], args := [d1, d2, d3] }
  | _ => none }
def FnOpStringSplitsBackIntoItsFieldsWrongFalsely : Prop := fnOpStringSplitsBackIntoItsFieldsRow.holds Trym.pinned (OpenSpec.ofChange fnOpStringSplitsBackIntoItsFieldsWrong)

/-- 'zzlaws_internal_kv_b1.FnOpStringIgnoresValueUnlessSet': WHATEVER THE INPUT: true; the input reads as it did. -/
def fnOpStringIgnoresValueUnlessSetSpec : ChangeSpec := { name := "fnOpStringIgnoresValueUnlessSet", fn := fun _ => fun
  | [d1, d2, d3, d4] => { results := [.lit (.bool true)], args := [d1, d2, d3, d4] }
  | _ => none }
def fnOpStringIgnoresValueUnlessSetRow : OpenClaim := { program := "qxb6001800amods", sum := "12e482b7f813a52868f790922ade9d507e46089a70676be6a44e58af006c12a2", func := "example.com/parsimon/parsimon/zzlaws_internal_kv_b1.FnOpStringIgnoresValueUnlessSet", spec := "fnOpStringIgnoresValueUnlessSet", make := .lifted ["publicsums"], apart := false }
def FnOpStringIgnoresValueUnlessSetSaid : Prop := fnOpStringIgnoresValueUnlessSetRow.holds Trym.pinned (OpenSpec.ofChange fnOpStringIgnoresValueUnlessSetSpec)

/-- ITS FALSE NEIGHBOUR: 'it returns false'. Refute it at one input. -/
def fnOpStringIgnoresValueUnlessSetWrong : ChangeSpec := { name := "fnOpStringIgnoresValueUnlessSet", fn := fun _ => fun
  | [d1, d2, d3, d4] => { results := [.lit (.bool false)], args := [d1, d2, d3, d4] }
  | _ => none }
def FnOpStringIgnoresValueUnlessSetWrongFalsely : Prop := fnOpStringIgnoresValueUnlessSetRow.holds Trym.pinned (OpenSpec.ofChange fnOpStringIgnoresValueUnlessSetWrong)

/-- 'zzlaws_internal_kv_b1.FnOpStringInjective': WHATEVER THE INPUT: true; the input reads as it did. -/
def fnOpStringInjectiveSpec : ChangeSpec := { name := "fnOpStringInjective", fn := fun _ => fun
  | [d1, d2, d3, d4, d5, d6] => { results := [.lit (.bool true)], args := [d1, d2, d3, d4, d5, d6] }
  | _ => none }
def fnOpStringInjectiveRow : OpenClaim := { program := "qxb6001800amods", sum := "12e482b7f813a52868f790922ade9d507e46089a70676be6a44e58af006c12a2", func := "example.com/parsimon/parsimon/zzlaws_internal_kv_b1.FnOpStringInjective", spec := "fnOpStringInjective", make := .lifted ["publicsums"], apart := false }
def FnOpStringInjectiveSaid : Prop := fnOpStringInjectiveRow.holds Trym.pinned (OpenSpec.ofChange fnOpStringInjectiveSpec)

/-- ITS FALSE NEIGHBOUR: 'it returns false'. Refute it at one input. -/
def fnOpStringInjectiveWrong : ChangeSpec := { name := "fnOpStringInjective", fn := fun _ => fun
  | [d1, d2, d3, d4, d5, d6] => { results := [.lit (.bool false)], args := [d1, d2, d3, d4, d5, d6] }
  | _ => none }
def FnOpStringInjectiveWrongFalsely : Prop := fnOpStringInjectiveRow.holds Trym.pinned (OpenSpec.ofChange fnOpStringInjectiveWrong)

end Rows
end Go.Proofs.Qxb6001800aMods
