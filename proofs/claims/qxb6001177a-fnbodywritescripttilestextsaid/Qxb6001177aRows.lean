/-
  No cell of these rows narrows 'for every input' (looked for: loops, veiled, ifaces, maps, wideKeys, modest, calm, conditions, laid).
  DERIVED. THE GIVEN ROWS OF THIS SEAT. 4 by the template 'for every input the law returns true; each argument reads behind the call as it read before'; 0 by the template 'total and deterministic' (their statements: Qxb6001177aTotals.lean).
  GIVEN WITH THE SEED: the statements are not yours to turn. If you find one false, say at which input.
  Laid BY PROGRAM, IN A SANDBOX (cutbox-rows.mjs): the forced cells as the released guide's own fill.sh prints them over the translation 05f0b18f56b43c9c… (all of the seat's roots in one cut). By AI agents, Wed Nov 11 2026. No macro, syntax, notation, axiom, sorry.
-/
import Derived.Test.Qxb6001177aChecked
import GoSem.Claim
import GoSem.ClaimJoined
import GoSem.ClaimMapViews
import Derived.JoinedTies
import Derived.KernelRfl
namespace Go.Proofs.Qxb6001177a
/- THE CELL 'sum', in the pinned program and in every row, IS THE sha256 OF THE DUMP (.gsa) THAT Qxb6001177aProg.lean LOADS. Nothing in Lean hashes anything: it is a label: what it is worth is what the hold of that sum in a sandbox is worth. -/
noncomputable def Try.pinned : Pinned := { name := "qxb6001177a", sum := "05f0b18f56b43c9c2a4cc369922c79756dca6b7b205e6663d2b28bfeb336d3f0", checked := Try.checked }
namespace Rows
def none {H : Type} : Left H := { results := [], args := [] }

/-- 'zzlaws_pkg_broker_b1.FnBodyWriteScriptTilesText': WHATEVER THE INPUT: true; the input reads as it did. -/
def fnBodyWriteScriptTilesTextSpec : ChangeSpec := { name := "fnBodyWriteScriptTilesText", fn := fun _ => fun
  | [d1, d2] => { results := [.lit (.bool true)], args := [d1, d2] }
  | _ => none }
def fnBodyWriteScriptTilesTextRow : OpenClaim := { program := "qxb6001177a", sum := "05f0b18f56b43c9c2a4cc369922c79756dca6b7b205e6663d2b28bfeb336d3f0", func := "example.com/crosswire/crosswire/zzlaws_pkg_broker_b1.FnBodyWriteScriptTilesText", spec := "fnBodyWriteScriptTilesText", inPlace := ["internal/abi.NoEscape"], apart := false }
def FnBodyWriteScriptTilesTextSaid : Prop := fnBodyWriteScriptTilesTextRow.holds Try.pinned (OpenSpec.ofChange fnBodyWriteScriptTilesTextSpec)

/-- ITS FALSE NEIGHBOUR: 'it returns false'. Refute it at one input. -/
def fnBodyWriteScriptTilesTextWrong : ChangeSpec := { name := "fnBodyWriteScriptTilesText", fn := fun _ => fun
  | [d1, d2] => { results := [.lit (.bool false)], args := [d1, d2] }
  | _ => none }
def FnBodyWriteScriptTilesTextWrongFalsely : Prop := fnBodyWriteScriptTilesTextRow.holds Try.pinned (OpenSpec.ofChange fnBodyWriteScriptTilesTextWrong)

/-- 'zzlaws_pkg_broker_b1.FnBodyWriteSplitAgrees': WHATEVER THE INPUT: true; the input reads as it did. -/
def fnBodyWriteSplitAgreesSpec : ChangeSpec := { name := "fnBodyWriteSplitAgrees", fn := fun _ => fun
  | [d1, d2, d3, d4] => { results := [.lit (.bool true)], args := [d1, d2, d3, d4] }
  | _ => none }
def fnBodyWriteSplitAgreesRow : OpenClaim := { program := "qxb6001177a", sum := "05f0b18f56b43c9c2a4cc369922c79756dca6b7b205e6663d2b28bfeb336d3f0", func := "example.com/crosswire/crosswire/zzlaws_pkg_broker_b1.FnBodyWriteSplitAgrees", spec := "fnBodyWriteSplitAgrees", inPlace := ["internal/abi.NoEscape"], apart := false }
def FnBodyWriteSplitAgreesSaid : Prop := fnBodyWriteSplitAgreesRow.holds Try.pinned (OpenSpec.ofChange fnBodyWriteSplitAgreesSpec)

/-- ITS FALSE NEIGHBOUR: 'it returns false'. Refute it at one input. -/
def fnBodyWriteSplitAgreesWrong : ChangeSpec := { name := "fnBodyWriteSplitAgrees", fn := fun _ => fun
  | [d1, d2, d3, d4] => { results := [.lit (.bool false)], args := [d1, d2, d3, d4] }
  | _ => none }
def FnBodyWriteSplitAgreesWrongFalsely : Prop := fnBodyWriteSplitAgreesRow.holds Try.pinned (OpenSpec.ofChange fnBodyWriteSplitAgreesWrong)

/-- 'zzlaws_pkg_broker_b1.FnEndedConcatIsBoth': WHATEVER THE INPUT: true; the input reads as it did. -/
def fnEndedConcatIsBothSpec : ChangeSpec := { name := "fnEndedConcatIsBoth", fn := fun _ => fun
  | [d1, d2] => { results := [.lit (.bool true)], args := [d1, d2] }
  | _ => none }
def fnEndedConcatIsBothRow : OpenClaim := { program := "qxb6001177a", sum := "05f0b18f56b43c9c2a4cc369922c79756dca6b7b205e6663d2b28bfeb336d3f0", func := "example.com/crosswire/crosswire/zzlaws_pkg_broker_b1.FnEndedConcatIsBoth", spec := "fnEndedConcatIsBoth", apart := false }
def FnEndedConcatIsBothSaid : Prop := fnEndedConcatIsBothRow.holds Try.pinned (OpenSpec.ofChange fnEndedConcatIsBothSpec)

/-- ITS FALSE NEIGHBOUR: 'it returns false'. Refute it at one input. -/
def fnEndedConcatIsBothWrong : ChangeSpec := { name := "fnEndedConcatIsBoth", fn := fun _ => fun
  | [d1, d2] => { results := [.lit (.bool false)], args := [d1, d2] }
  | _ => none }
def FnEndedConcatIsBothWrongFalsely : Prop := fnEndedConcatIsBothRow.holds Try.pinned (OpenSpec.ofChange fnEndedConcatIsBothWrong)

/-- 'zzlaws_pkg_broker_b1.FnEndedSettledNeutralOpenRefuses': WHATEVER THE INPUT: true; the input reads as it did. -/
def fnEndedSettledNeutralOpenRefusesSpec : ChangeSpec := { name := "fnEndedSettledNeutralOpenRefuses", fn := fun _ => fun
  | [d1, d2, d3] => { results := [.lit (.bool true)], args := [d1, d2, d3] }
  | _ => none }
def fnEndedSettledNeutralOpenRefusesRow : OpenClaim := { program := "qxb6001177a", sum := "05f0b18f56b43c9c2a4cc369922c79756dca6b7b205e6663d2b28bfeb336d3f0", func := "example.com/crosswire/crosswire/zzlaws_pkg_broker_b1.FnEndedSettledNeutralOpenRefuses", spec := "fnEndedSettledNeutralOpenRefuses", apart := false }
def FnEndedSettledNeutralOpenRefusesSaid : Prop := fnEndedSettledNeutralOpenRefusesRow.holds Try.pinned (OpenSpec.ofChange fnEndedSettledNeutralOpenRefusesSpec)

/-- ITS FALSE NEIGHBOUR: 'it returns false'. Refute it at one input. -/
def fnEndedSettledNeutralOpenRefusesWrong : ChangeSpec := { name := "fnEndedSettledNeutralOpenRefuses", fn := fun _ => fun
  | [d1, d2, d3] => { results := [.lit (.bool false)], args := [d1, d2, d3] }
  | _ => none }
def FnEndedSettledNeutralOpenRefusesWrongFalsely : Prop := fnEndedSettledNeutralOpenRefusesRow.holds Try.pinned (OpenSpec.ofChange fnEndedSettledNeutralOpenRefusesWrong)

end Rows
end Go.Proofs.Qxb6001177a
