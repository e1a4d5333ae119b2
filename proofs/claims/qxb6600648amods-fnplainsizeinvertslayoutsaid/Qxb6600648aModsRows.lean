/-
  No cell of these rows narrows 'for every input' (looked for: loops, veiled, ifaces, maps, wideKeys, modest, calm, conditions, laid).
  DERIVED. THE GIVEN ROWS OF THIS SEAT. 5 by the template 'for every input the law returns true; each argument reads behind the call as it read before'; 0 by the template 'total and deterministic' (their statements: Qxb6600648aModsTotals.lean).
  GIVEN WITH THE SEED: the statements are not yours to turn. If you find one false, say at which input.
  Laid BY PROGRAM, IN A SANDBOX (cutbox-rows.mjs): the forced cells as the released guide's own fill.sh prints them over the translation 1fd1a2552ad1b834… (all of the seat's roots in one cut). By AI agents, Wed Nov 11 2026. No macro, syntax, notation, axiom, sorry.
-/
import Derived.Test.Qxb6600648aModsChecked
import GoSem.Claim
import GoSem.ClaimJoined
import GoSem.ClaimMapViews
import Derived.JoinedTies
import Derived.KernelRfl
namespace Go.Proofs.Qxb6600648aMods
/- THE CELL 'sum', in the pinned program and in every row, IS THE sha256 OF THE DUMP (.gsa) THAT Qxb6600648aModsProg.lean LOADS. Nothing in Lean hashes anything: it is a label: what it is worth is what the hold of that sum in a sandbox is worth. -/
noncomputable def Trym.pinned : Pinned := { name := "qxb6600648amods", sum := "1fd1a2552ad1b8348f5788a6a562960ba0c656814e88190faa71f49f3a97b914", checked := Trym.checked }
namespace Rows
def none {H : Type} : Left H := { results := [], args := [] }

/-- 'zzlaws_internal_content_b1.FnPlainSizeMatchesLayoutSearch': WHATEVER THE INPUT: true; the input reads as it did. -/
def fnPlainSizeMatchesLayoutSearchSpec : ChangeSpec := { name := "fnPlainSizeMatchesLayoutSearch", fn := fun _ => fun
  | [d1, d2] => { results := [.lit (.bool true)], args := [d1, d2] }
  | _ => none }
def fnPlainSizeMatchesLayoutSearchRow : OpenClaim := { program := "qxb6600648amods", sum := "1fd1a2552ad1b8348f5788a6a562960ba0c656814e88190faa71f49f3a97b914", func := "example.com/cipher-mount/cipher-mount/zzlaws_internal_content_b1.FnPlainSizeMatchesLayoutSearch", spec := "fnPlainSizeMatchesLayoutSearch", make := .lifted ["publicsums"], apart := false }
def FnPlainSizeMatchesLayoutSearchSaid : Prop := fnPlainSizeMatchesLayoutSearchRow.holds Trym.pinned (OpenSpec.ofChange fnPlainSizeMatchesLayoutSearchSpec)

/-- ITS FALSE NEIGHBOUR: 'it returns false'. Refute it at one input. -/
def fnPlainSizeMatchesLayoutSearchWrong : ChangeSpec := { name := "fnPlainSizeMatchesLayoutSearch", fn := fun _ => fun
  | [d1, d2] => { results := [.lit (.bool false)], args := [d1, d2] }
  | _ => none }
def FnPlainSizeMatchesLayoutSearchWrongFalsely : Prop := fnPlainSizeMatchesLayoutSearchRow.holds Trym.pinned (OpenSpec.ofChange fnPlainSizeMatchesLayoutSearchWrong)

/-- 'zzlaws_internal_content_b1.FnPlainSizeInvertsLayout': WHATEVER THE INPUT: true; the input reads as it did. -/
def fnPlainSizeInvertsLayoutSpec : ChangeSpec := { name := "fnPlainSizeInvertsLayout", fn := fun _ => fun
  | [d1, d2] => { results := [.lit (.bool true)], args := [d1, d2] }
  | _ => none }
def fnPlainSizeInvertsLayoutRow : OpenClaim := { program := "qxb6600648amods", sum := "1fd1a2552ad1b8348f5788a6a562960ba0c656814e88190faa71f49f3a97b914", func := "example.com/cipher-mount/cipher-mount/zzlaws_internal_content_b1.FnPlainSizeInvertsLayout", spec := "fnPlainSizeInvertsLayout", make := .lifted ["publicsums"], apart := false }
def FnPlainSizeInvertsLayoutSaid : Prop := fnPlainSizeInvertsLayoutRow.holds Trym.pinned (OpenSpec.ofChange fnPlainSizeInvertsLayoutSpec)

/-- ITS FALSE NEIGHBOUR: 'it returns false'. Refute it at one input. -/
def fnPlainSizeInvertsLayoutWrong : ChangeSpec := { name := "fnPlainSizeInvertsLayout", fn := fun _ => fun
  | [d1, d2] => { results := [.lit (.bool false)], args := [d1, d2] }
  | _ => none }
def FnPlainSizeInvertsLayoutWrongFalsely : Prop := fnPlainSizeInvertsLayoutRow.holds Trym.pinned (OpenSpec.ofChange fnPlainSizeInvertsLayoutWrong)

/-- 'zzlaws_internal_content_b1.FnPlainSizeOrderedAndBounded': WHATEVER THE INPUT: true; the input reads as it did. -/
def fnPlainSizeOrderedAndBoundedSpec : ChangeSpec := { name := "fnPlainSizeOrderedAndBounded", fn := fun _ => fun
  | [d1, d2, d3] => { results := [.lit (.bool true)], args := [d1, d2, d3] }
  | _ => none }
def fnPlainSizeOrderedAndBoundedRow : OpenClaim := { program := "qxb6600648amods", sum := "1fd1a2552ad1b8348f5788a6a562960ba0c656814e88190faa71f49f3a97b914", func := "example.com/cipher-mount/cipher-mount/zzlaws_internal_content_b1.FnPlainSizeOrderedAndBounded", spec := "fnPlainSizeOrderedAndBounded", make := .lifted ["publicsums"], apart := false }
def FnPlainSizeOrderedAndBoundedSaid : Prop := fnPlainSizeOrderedAndBoundedRow.holds Trym.pinned (OpenSpec.ofChange fnPlainSizeOrderedAndBoundedSpec)

/-- ITS FALSE NEIGHBOUR: 'it returns false'. Refute it at one input. -/
def fnPlainSizeOrderedAndBoundedWrong : ChangeSpec := { name := "fnPlainSizeOrderedAndBounded", fn := fun _ => fun
  | [d1, d2, d3] => { results := [.lit (.bool false)], args := [d1, d2, d3] }
  | _ => none }
def FnPlainSizeOrderedAndBoundedWrongFalsely : Prop := fnPlainSizeOrderedAndBoundedRow.holds Trym.pinned (OpenSpec.ofChange fnPlainSizeOrderedAndBoundedWrong)

/-- 'zzlaws_internal_content_b1.FnBlockNonceStepsAdd': WHATEVER THE INPUT: true; the input reads as it did. -/
def fnBlockNonceStepsAddSpec : ChangeSpec := { name := "fnBlockNonceStepsAdd", fn := fun _ => fun
  | [d1, d2, d3] => { results := [.lit (.bool true)], args := [d1, d2, d3] }
  | _ => none }
def fnBlockNonceStepsAddRow : OpenClaim := { program := "qxb6600648amods", sum := "1fd1a2552ad1b8348f5788a6a562960ba0c656814e88190faa71f49f3a97b914", func := "example.com/cipher-mount/cipher-mount/zzlaws_internal_content_b1.FnBlockNonceStepsAdd", spec := "fnBlockNonceStepsAdd", make := .lifted ["publicsums"], apart := false }
def FnBlockNonceStepsAddSaid : Prop := fnBlockNonceStepsAddRow.holds Trym.pinned (OpenSpec.ofChange fnBlockNonceStepsAddSpec)

/-- ITS FALSE NEIGHBOUR: 'it returns false'. Refute it at one input. -/
def fnBlockNonceStepsAddWrong : ChangeSpec := { name := "fnBlockNonceStepsAdd", fn := fun _ => fun
  | [d1, d2, d3] => { results := [.lit (.bool false)], args := [d1, d2, d3] }
  | _ => none }
def FnBlockNonceStepsAddWrongFalsely : Prop := fnBlockNonceStepsAddRow.holds Trym.pinned (OpenSpec.ofChange fnBlockNonceStepsAddWrong)

/-- 'zzlaws_internal_content_b1.FnBlockNonceDistinctForDistinctBlocks': WHATEVER THE INPUT: true; the input reads as it did. -/
def fnBlockNonceDistinctForDistinctBlocksSpec : ChangeSpec := { name := "fnBlockNonceDistinctForDistinctBlocks", fn := fun _ => fun
  | [d1, d2, d3] => { results := [.lit (.bool true)], args := [d1, d2, d3] }
  | _ => none }
def fnBlockNonceDistinctForDistinctBlocksRow : OpenClaim := { program := "qxb6600648amods", sum := "1fd1a2552ad1b8348f5788a6a562960ba0c656814e88190faa71f49f3a97b914", func := "example.com/cipher-mount/cipher-mount/zzlaws_internal_content_b1.FnBlockNonceDistinctForDistinctBlocks", spec := "fnBlockNonceDistinctForDistinctBlocks", make := .lifted ["publicsums"], apart := false }
def FnBlockNonceDistinctForDistinctBlocksSaid : Prop := fnBlockNonceDistinctForDistinctBlocksRow.holds Trym.pinned (OpenSpec.ofChange fnBlockNonceDistinctForDistinctBlocksSpec)

/-- ITS FALSE NEIGHBOUR: 'it returns false'. Refute it at one input. -/
def fnBlockNonceDistinctForDistinctBlocksWrong : ChangeSpec := { name := "fnBlockNonceDistinctForDistinctBlocks", fn := fun _ => fun
  | [d1, d2, d3] => { results := [.lit (.bool false)], args := [d1, d2, d3] }
  | _ => none }
def FnBlockNonceDistinctForDistinctBlocksWrongFalsely : Prop := fnBlockNonceDistinctForDistinctBlocksRow.holds Trym.pinned (OpenSpec.ofChange fnBlockNonceDistinctForDistinctBlocksWrong)

end Rows
end Go.Proofs.Qxb6600648aMods
