/-
  No cell of these rows narrows 'for every input' (looked for: loops, veiled, ifaces, maps, wideKeys, modest, calm, conditions, laid).
  DERIVED. THE GIVEN ROWS OF THIS SEAT. 6 by the template 'for every input the law returns true; each argument reads behind the call as it read before'; 0 by the template 'total and deterministic' (their statements: Qxb6600638aModsTotals.lean).
  GIVEN WITH THE SEED: the statements are not yours to turn. If you find one false, say at which input.
  Laid BY PROGRAM, IN A SANDBOX (cutbox-rows.mjs): the forced cells as the released guide's own fill.sh prints them over the translation 973b9d048a3f7e10… (all of the seat's roots in one cut). By AI agents, Wed Nov 11 2026. No macro, syntax, notation, axiom, sorry.
-/
import Derived.Test.Qxb6600638aModsChecked
import GoSem.Claim
import GoSem.ClaimJoined
import GoSem.ClaimMapViews
import Derived.JoinedTies
import Derived.KernelRfl
namespace Go.Proofs.Qxb6600638aMods
/- THE CELL 'sum', in the pinned program and in every row, IS THE sha256 OF THE DUMP (.gsa) THAT Qxb6600638aModsProg.lean LOADS. Nothing in Lean hashes anything: it is a label: what it is worth is what the hold of that sum in a sandbox is worth. -/
noncomputable def Trym.pinned : Pinned := { name := "qxb6600638amods", sum := "973b9d048a3f7e1040819808a4d6dc40d554aed9cfd12ec4f7877513dbaa3593", checked := Trym.checked }
namespace Rows
def none {H : Type} : Left H := { results := [], args := [] }

/-- 'zzlaws_manifest_b1.FnSuffixedMatchesQuantityGrammar': WHATEVER THE INPUT: true; the input reads as it did. -/
def fnSuffixedMatchesQuantityGrammarSpec : ChangeSpec := { name := "fnSuffixedMatchesQuantityGrammar", fn := fun _ => fun
  | [d] => { results := [.lit (.bool true)], args := [d] }
  | _ => none }
def fnSuffixedMatchesQuantityGrammarRow : OpenClaim := { program := "qxb6600638amods", sum := "973b9d048a3f7e1040819808a4d6dc40d554aed9cfd12ec4f7877513dbaa3593", func := "example.com/hopwise/hopwise/zzlaws_manifest_b1.FnSuffixedMatchesQuantityGrammar", spec := "fnSuffixedMatchesQuantityGrammar", make := .lifted ["publicsums"], apart := false }
def FnSuffixedMatchesQuantityGrammarSaid : Prop := fnSuffixedMatchesQuantityGrammarRow.holds Trym.pinned (OpenSpec.ofChange fnSuffixedMatchesQuantityGrammarSpec)

/-- ITS FALSE NEIGHBOUR: 'it returns false'. Refute it at one input. -/
def fnSuffixedMatchesQuantityGrammarWrong : ChangeSpec := { name := "fnSuffixedMatchesQuantityGrammar", fn := fun _ => fun
  | [d] => { results := [.lit (.bool false)], args := [d] }
  | _ => none }
def FnSuffixedMatchesQuantityGrammarWrongFalsely : Prop := fnSuffixedMatchesQuantityGrammarRow.holds Trym.pinned (OpenSpec.ofChange fnSuffixedMatchesQuantityGrammarWrong)

/-- 'zzlaws_manifest_b1.FnSuffixedIgnoresAnExtraLeadingDigit': WHATEVER THE INPUT: true; the input reads as it did. -/
def fnSuffixedIgnoresAnExtraLeadingDigitSpec : ChangeSpec := { name := "fnSuffixedIgnoresAnExtraLeadingDigit", fn := fun _ => fun
  | [d1, d2] => { results := [.lit (.bool true)], args := [d1, d2] }
  | _ => none }
def fnSuffixedIgnoresAnExtraLeadingDigitRow : OpenClaim := { program := "qxb6600638amods", sum := "973b9d048a3f7e1040819808a4d6dc40d554aed9cfd12ec4f7877513dbaa3593", func := "example.com/hopwise/hopwise/zzlaws_manifest_b1.FnSuffixedIgnoresAnExtraLeadingDigit", spec := "fnSuffixedIgnoresAnExtraLeadingDigit", make := .lifted ["publicsums"], apart := false }
def FnSuffixedIgnoresAnExtraLeadingDigitSaid : Prop := fnSuffixedIgnoresAnExtraLeadingDigitRow.holds Trym.pinned (OpenSpec.ofChange fnSuffixedIgnoresAnExtraLeadingDigitSpec)

/-- ITS FALSE NEIGHBOUR: 'it returns false'. Refute it at one input. -/
def fnSuffixedIgnoresAnExtraLeadingDigitWrong : ChangeSpec := { name := "fnSuffixedIgnoresAnExtraLeadingDigit", fn := fun _ => fun
  | [d1, d2] => { results := [.lit (.bool false)], args := [d1, d2] }
  | _ => none }
def FnSuffixedIgnoresAnExtraLeadingDigitWrongFalsely : Prop := fnSuffixedIgnoresAnExtraLeadingDigitRow.holds Trym.pinned (OpenSpec.ofChange fnSuffixedIgnoresAnExtraLeadingDigitWrong)

/-- 'zzlaws_manifest_b1.FnKeyMatchesEntryGrammar': WHATEVER THE INPUT: true; the input reads as it did. -/
def fnKeyMatchesEntryGrammarSpec : ChangeSpec := { name := "fnKeyMatchesEntryGrammar", fn := fun _ => fun
  | [d1, d2, d3] => { results := [.lit (.bool true)], args := [d1, d2, d3] }
  | _ => none }
def fnKeyMatchesEntryGrammarRow : OpenClaim := { program := "qxb6600638amods", sum := "973b9d048a3f7e1040819808a4d6dc40d554aed9cfd12ec4f7877513dbaa3593", func := "example.com/hopwise/hopwise/zzlaws_manifest_b1.FnKeyMatchesEntryGrammar", spec := "fnKeyMatchesEntryGrammar", inPlace := ["internal/bytealg.IndexByte"], make := .lifted ["publicsums"], apart := false }
def FnKeyMatchesEntryGrammarSaid : Prop := fnKeyMatchesEntryGrammarRow.holds Trym.pinned (OpenSpec.ofChange fnKeyMatchesEntryGrammarSpec)

/-- ITS FALSE NEIGHBOUR: 'it returns false'. Refute it at one input. -/
def fnKeyMatchesEntryGrammarWrong : ChangeSpec := { name := "fnKeyMatchesEntryGrammar", fn := fun _ => fun
  | [d1, d2, d3] => { results := [.lit (.bool false)], args := [d1, d2, d3] }
  | _ => none }
def FnKeyMatchesEntryGrammarWrongFalsely : Prop := fnKeyMatchesEntryGrammarRow.holds Trym.pinned (OpenSpec.ofChange fnKeyMatchesEntryGrammarWrong)

/-- 'zzlaws_manifest_b1.FnKeyQuotedAndPlainAgree': WHATEVER THE INPUT: true; the input reads as it did. -/
def fnKeyQuotedAndPlainAgreeSpec : ChangeSpec := { name := "fnKeyQuotedAndPlainAgree", fn := fun _ => fun
  | [d1, d2, d3] => { results := [.lit (.bool true)], args := [d1, d2, d3] }
  | _ => none }
def fnKeyQuotedAndPlainAgreeRow : OpenClaim := { program := "qxb6600638amods", sum := "973b9d048a3f7e1040819808a4d6dc40d554aed9cfd12ec4f7877513dbaa3593", func := "example.com/hopwise/hopwise/zzlaws_manifest_b1.FnKeyQuotedAndPlainAgree", spec := "fnKeyQuotedAndPlainAgree", inPlace := ["internal/bytealg.IndexByte"], make := .lifted ["publicsums"], apart := false }
def FnKeyQuotedAndPlainAgreeSaid : Prop := fnKeyQuotedAndPlainAgreeRow.holds Trym.pinned (OpenSpec.ofChange fnKeyQuotedAndPlainAgreeSpec)

/-- ITS FALSE NEIGHBOUR: 'it returns false'. Refute it at one input. -/
def fnKeyQuotedAndPlainAgreeWrong : ChangeSpec := { name := "fnKeyQuotedAndPlainAgree", fn := fun _ => fun
  | [d1, d2, d3] => { results := [.lit (.bool false)], args := [d1, d2, d3] }
  | _ => none }
def FnKeyQuotedAndPlainAgreeWrongFalsely : Prop := fnKeyQuotedAndPlainAgreeRow.holds Trym.pinned (OpenSpec.ofChange fnKeyQuotedAndPlainAgreeWrong)

/-- 'zzlaws_manifest_b1.FnEndMappingSortsEntriesByKey': WHATEVER THE INPUT: true; the input reads as it did. -/
def fnEndMappingSortsEntriesByKeySpec : ChangeSpec := { name := "fnEndMappingSortsEntriesByKey", fn := fun _ => fun
  | [d1, d2, d3, d4, d5] => { results := [.lit (.bool true)], args := [d1, d2, d3, d4, d5] }
  | _ => none }
def fnEndMappingSortsEntriesByKeyRow : OpenClaim := { program := "qxb6600638amods", sum := "973b9d048a3f7e1040819808a4d6dc40d554aed9cfd12ec4f7877513dbaa3593", func := "example.com/hopwise/hopwise/zzlaws_manifest_b1.FnEndMappingSortsEntriesByKey", spec := "fnEndMappingSortsEntriesByKey", inPlace := ["internal/bytealg.Compare"], unfollowed := true, recurses := true, make := .lifted ["publicsums"], apart := false }
def FnEndMappingSortsEntriesByKeySaid : Prop := fnEndMappingSortsEntriesByKeyRow.holds Trym.pinned (OpenSpec.ofChange fnEndMappingSortsEntriesByKeySpec)

/-- ITS FALSE NEIGHBOUR: 'it returns false'. Refute it at one input. -/
def fnEndMappingSortsEntriesByKeyWrong : ChangeSpec := { name := "fnEndMappingSortsEntriesByKey", fn := fun _ => fun
  | [d1, d2, d3, d4, d5] => { results := [.lit (.bool false)], args := [d1, d2, d3, d4, d5] }
  | _ => none }
def FnEndMappingSortsEntriesByKeyWrongFalsely : Prop := fnEndMappingSortsEntriesByKeyRow.holds Trym.pinned (OpenSpec.ofChange fnEndMappingSortsEntriesByKeyWrong)

/-- 'zzlaws_manifest_b1.FnEndMappingIgnoresEntryOrder': WHATEVER THE INPUT: true; the input reads as it did. -/
def fnEndMappingIgnoresEntryOrderSpec : ChangeSpec := { name := "fnEndMappingIgnoresEntryOrder", fn := fun _ => fun
  | [d1, d2, d3, d4] => { results := [.lit (.bool true)], args := [d1, d2, d3, d4] }
  | _ => none }
def fnEndMappingIgnoresEntryOrderRow : OpenClaim := { program := "qxb6600638amods", sum := "973b9d048a3f7e1040819808a4d6dc40d554aed9cfd12ec4f7877513dbaa3593", func := "example.com/hopwise/hopwise/zzlaws_manifest_b1.FnEndMappingIgnoresEntryOrder", spec := "fnEndMappingIgnoresEntryOrder", inPlace := ["internal/bytealg.Compare"], unfollowed := true, recurses := true, make := .lifted ["publicsums"], apart := false }
def FnEndMappingIgnoresEntryOrderSaid : Prop := fnEndMappingIgnoresEntryOrderRow.holds Trym.pinned (OpenSpec.ofChange fnEndMappingIgnoresEntryOrderSpec)

/-- ITS FALSE NEIGHBOUR: 'it returns false'. Refute it at one input. -/
def fnEndMappingIgnoresEntryOrderWrong : ChangeSpec := { name := "fnEndMappingIgnoresEntryOrder", fn := fun _ => fun
  | [d1, d2, d3, d4] => { results := [.lit (.bool false)], args := [d1, d2, d3, d4] }
  | _ => none }
def FnEndMappingIgnoresEntryOrderWrongFalsely : Prop := fnEndMappingIgnoresEntryOrderRow.holds Trym.pinned (OpenSpec.ofChange fnEndMappingIgnoresEntryOrderWrong)

end Rows
end Go.Proofs.Qxb6600638aMods
