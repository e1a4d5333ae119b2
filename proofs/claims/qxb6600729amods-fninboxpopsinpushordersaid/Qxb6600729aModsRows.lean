/-
  No cell of these rows narrows 'for every input' (looked for: loops, veiled, ifaces, maps, wideKeys, modest, calm, conditions, laid).
  DERIVED. THE GIVEN ROWS OF THIS SEAT. 2 by the template 'for every input the law returns true; each argument reads behind the call as it read before'; 0 by the template 'total and deterministic' (their statements: Qxb6600729aModsTotals.lean).
  GIVEN WITH THE SEED: the statements are not yours to turn. If you find one false, say at which input.
  Laid BY PROGRAM, IN A SANDBOX (cutbox-rows.mjs): the forced cells as the released guide's own fill.sh prints them over the translation 6590042f1a5c1673… (all of the seat's roots in one cut). By AI agents, Wed Nov 11 2026. No macro, syntax, notation, axiom, sorry.
-/
import Derived.Test.Qxb6600729aModsChecked
import GoSem.Claim
import GoSem.ClaimJoined
import GoSem.ClaimMapViews
import Derived.JoinedTies
import Derived.KernelRfl
namespace Go.Proofs.Qxb6600729aMods
/- THE CELL 'sum', in the pinned program and in every row, IS THE sha256 OF THE DUMP (.gsa) THAT Qxb6600729aModsProg.lean LOADS. Nothing in Lean hashes anything: it is a label: what it is worth is what the hold of that sum in a sandbox is worth. -/
noncomputable def Trym.pinned : Pinned := { name := "qxb6600729amods", sum := "6590042f1a5c167316cbe8f8598d3610b29071ab5252e60aadbeb0141afe3d4f", checked := Trym.checked }
namespace Rows
def none {H : Type} : Left H := { results := [], args := [] }

/-- 'zzlaws_root_b1.FnInboxPopsInPushOrder': WHATEVER THE INPUT: true; the input reads as it did. -/
def fnInboxPopsInPushOrderSpec : ChangeSpec := { name := "fnInboxPopsInPushOrder", fn := fun _ => fun
  | [d1, d2, d3, d4, d5, d6, d7] => { results := [.lit (.bool true)], args := [d1, d2, d3, d4, d5, d6, d7] }
  | _ => none }
def fnInboxPopsInPushOrderRow : OpenClaim := { program := "qxb6600729amods", sum := "6590042f1a5c167316cbe8f8598d3610b29071ab5252e60aadbeb0141afe3d4f", func := "example.com/tocsin/tocsin/zzlaws_root_b1.FnInboxPopsInPushOrder", spec := "fnInboxPopsInPushOrder", make := .lifted ["publicsums"], apart := false }
def FnInboxPopsInPushOrderSaid : Prop := fnInboxPopsInPushOrderRow.holds Trym.pinned (OpenSpec.ofChange fnInboxPopsInPushOrderSpec)

/-- ITS FALSE NEIGHBOUR: 'it returns false'. Refute it at one input. -/
def fnInboxPopsInPushOrderWrong : ChangeSpec := { name := "fnInboxPopsInPushOrder", fn := fun _ => fun
  | [d1, d2, d3, d4, d5, d6, d7] => { results := [.lit (.bool false)], args := [d1, d2, d3, d4, d5, d6, d7] }
  | _ => none }
def FnInboxPopsInPushOrderWrongFalsely : Prop := fnInboxPopsInPushOrderRow.holds Trym.pinned (OpenSpec.ofChange fnInboxPopsInPushOrderWrong)

/-- 'zzlaws_root_b1.FnInboxHoldsExactlyWhatWaits': WHATEVER THE INPUT: true; the input reads as it did. -/
def fnInboxHoldsExactlyWhatWaitsSpec : ChangeSpec := { name := "fnInboxHoldsExactlyWhatWaits", fn := fun _ => fun
  | [d1, d2, d3, d4, d5, d6, d7] => { results := [.lit (.bool true)], args := [d1, d2, d3, d4, d5, d6, d7] }
  | _ => none }
def fnInboxHoldsExactlyWhatWaitsRow : OpenClaim := { program := "qxb6600729amods", sum := "6590042f1a5c167316cbe8f8598d3610b29071ab5252e60aadbeb0141afe3d4f", func := "example.com/tocsin/tocsin/zzlaws_root_b1.FnInboxHoldsExactlyWhatWaits", spec := "fnInboxHoldsExactlyWhatWaits", make := .lifted ["publicsums"], apart := false }
def FnInboxHoldsExactlyWhatWaitsSaid : Prop := fnInboxHoldsExactlyWhatWaitsRow.holds Trym.pinned (OpenSpec.ofChange fnInboxHoldsExactlyWhatWaitsSpec)

/-- ITS FALSE NEIGHBOUR: 'it returns false'. Refute it at one input. -/
def fnInboxHoldsExactlyWhatWaitsWrong : ChangeSpec := { name := "fnInboxHoldsExactlyWhatWaits", fn := fun _ => fun
  | [d1, d2, d3, d4, d5, d6, d7] => { results := [.lit (.bool false)], args := [d1, d2, d3, d4, d5, d6, d7] }
  | _ => none }
def FnInboxHoldsExactlyWhatWaitsWrongFalsely : Prop := fnInboxHoldsExactlyWhatWaitsRow.holds Trym.pinned (OpenSpec.ofChange fnInboxHoldsExactlyWhatWaitsWrong)

end Rows
end Go.Proofs.Qxb6600729aMods
