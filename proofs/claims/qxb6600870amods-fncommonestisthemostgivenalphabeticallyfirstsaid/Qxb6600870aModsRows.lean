/-
  No cell of these rows narrows 'for every input' (looked for: loops, veiled, ifaces, maps, wideKeys, modest, calm, conditions, laid).
  DERIVED. THE GIVEN ROWS OF THIS SEAT. 3 by the template 'for every input the law returns true; each argument reads behind the call as it read before'; 0 by the template 'total and deterministic' (their statements: Qxb6600870aModsTotals.lean).
  GIVEN WITH THE SEED: the statements are not yours to turn. If you find one false, say at which input.
  Laid BY PROGRAM, IN A SANDBOX (cutbox-rows.mjs): the forced cells as the released guide's own fill.sh prints them over the translation 931a3b3b00c0c02d… (all of the seat's roots in one cut). By AI agents, Wed Nov 11 2026. No macro, syntax, notation, axiom, sorry.
-/
import Derived.Test.Qxb6600870aModsChecked
import GoSem.Claim
import GoSem.ClaimJoined
import GoSem.ClaimMapViews
import Derived.JoinedTies
import Derived.KernelRfl
namespace Go.Proofs.Qxb6600870aMods
/- THE CELL 'sum', in the pinned program and in every row, IS THE sha256 OF THE DUMP (.gsa) THAT Qxb6600870aModsProg.lean LOADS. Nothing in Lean hashes anything: it is a label: what it is worth is what the hold of that sum in a sandbox is worth. -/
noncomputable def Trym.pinned : Pinned := { name := "qxb6600870amods", sum := "931a3b3b00c0c02d13d4c4c04416ace3498e7bc9d667431d845b89fa2f386216", checked := Trym.checked }
namespace Rows
def none {H : Type} : Left H := { results := [], args := [] }

/-- 'zzlaws_pkg_client_b1.FnCommonestIsTheMostGivenAlphabeticallyFirst': WHATEVER THE INPUT: true; the input reads as it did. -/
def fnCommonestIsTheMostGivenAlphabeticallyFirstSpec : ChangeSpec := { name := "fnCommonestIsTheMostGivenAlphabeticallyFirst", fn := fun _ => fun
  | [d1, d2] => { results := [.lit (.bool true)], args := [d1, d2] }
  | _ => none }
def fnCommonestIsTheMostGivenAlphabeticallyFirstRow : OpenClaim := { program := "qxb6600870amods", sum := "931a3b3b00c0c02d13d4c4c04416ace3498e7bc9d667431d845b89fa2f386216", func := "example.com/lightquorum/lightquorum/zzlaws_pkg_client_b1.FnCommonestIsTheMostGivenAlphabeticallyFirst", spec := "fnCommonestIsTheMostGivenAlphabeticallyFirst", make := .lifted ["publicsums"], apart := false }
def FnCommonestIsTheMostGivenAlphabeticallyFirstSaid : Prop := fnCommonestIsTheMostGivenAlphabeticallyFirstRow.holds Trym.pinned (OpenSpec.ofChange fnCommonestIsTheMostGivenAlphabeticallyFirstSpec)

/-- ITS FALSE NEIGHBOUR: 'it returns false'. Refute it at one input. -/
def fnCommonestIsTheMostGivenAlphabeticallyFirstWrong : ChangeSpec := { name := "fnCommonestIsTheMostGivenAlphabeticallyFirst", fn := fun _ => fun
  | [d1, d2] => { results := [.lit (.bool false)], args := [d1, d2] }
  | _ => none }
def FnCommonestIsTheMostGivenAlphabeticallyFirstWrongFalsely : Prop := fnCommonestIsTheMostGivenAlphabeticallyFirstRow.holds Trym.pinned (OpenSpec.ofChange fnCommonestIsTheMostGivenAlphabeticallyFirstWrong)

/-- 'zzlaws_pkg_client_b1.FnCommonestIgnoresACommonShift': WHATEVER THE INPUT: true; the input reads as it did. -/
def fnCommonestIgnoresACommonShiftSpec : ChangeSpec := { name := "fnCommonestIgnoresACommonShift", fn := fun _ => fun
  | [d1, d2, d3] => { results := [.lit (.bool true)], args := [d1, d2, d3] }
  | _ => none }
def fnCommonestIgnoresACommonShiftRow : OpenClaim := { program := "qxb6600870amods", sum := "931a3b3b00c0c02d13d4c4c04416ace3498e7bc9d667431d845b89fa2f386216", func := "example.com/lightquorum/lightquorum/zzlaws_pkg_client_b1.FnCommonestIgnoresACommonShift", spec := "fnCommonestIgnoresACommonShift", make := .lifted ["publicsums"], apart := false }
def FnCommonestIgnoresACommonShiftSaid : Prop := fnCommonestIgnoresACommonShiftRow.holds Trym.pinned (OpenSpec.ofChange fnCommonestIgnoresACommonShiftSpec)

/-- ITS FALSE NEIGHBOUR: 'it returns false'. Refute it at one input. -/
def fnCommonestIgnoresACommonShiftWrong : ChangeSpec := { name := "fnCommonestIgnoresACommonShift", fn := fun _ => fun
  | [d1, d2, d3] => { results := [.lit (.bool false)], args := [d1, d2, d3] }
  | _ => none }
def FnCommonestIgnoresACommonShiftWrongFalsely : Prop := fnCommonestIgnoresACommonShiftRow.holds Trym.pinned (OpenSpec.ofChange fnCommonestIgnoresACommonShiftWrong)

/-- 'zzlaws_pkg_client_b1.FnCommonestUnmovedByDroppingALoser': WHATEVER THE INPUT: true; the input reads as it did. -/
def fnCommonestUnmovedByDroppingALoserSpec : ChangeSpec := { name := "fnCommonestUnmovedByDroppingALoser", fn := fun _ => fun
  | [d1, d2, d3] => { results := [.lit (.bool true)], args := [d1, d2, d3] }
  | _ => none }
def fnCommonestUnmovedByDroppingALoserRow : OpenClaim := { program := "qxb6600870amods", sum := "931a3b3b00c0c02d13d4c4c04416ace3498e7bc9d667431d845b89fa2f386216", func := "example.com/lightquorum/lightquorum/zzlaws_pkg_client_b1.FnCommonestUnmovedByDroppingALoser", spec := "fnCommonestUnmovedByDroppingALoser", make := .lifted ["publicsums"], apart := false }
def FnCommonestUnmovedByDroppingALoserSaid : Prop := fnCommonestUnmovedByDroppingALoserRow.holds Trym.pinned (OpenSpec.ofChange fnCommonestUnmovedByDroppingALoserSpec)

/-- ITS FALSE NEIGHBOUR: 'it returns false'. Refute it at one input. -/
def fnCommonestUnmovedByDroppingALoserWrong : ChangeSpec := { name := "fnCommonestUnmovedByDroppingALoser", fn := fun _ => fun
  | [d1, d2, d3] => { results := [.lit (.bool false)], args := [d1, d2, d3] }
  | _ => none }
def FnCommonestUnmovedByDroppingALoserWrongFalsely : Prop := fnCommonestUnmovedByDroppingALoserRow.holds Trym.pinned (OpenSpec.ofChange fnCommonestUnmovedByDroppingALoserWrong)

end Rows
end Go.Proofs.Qxb6600870aMods
