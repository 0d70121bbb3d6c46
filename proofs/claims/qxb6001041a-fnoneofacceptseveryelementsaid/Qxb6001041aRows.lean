/-
  No cell of these rows narrows 'for every input' (looked for: loops, veiled, ifaces, maps, wideKeys, modest, calm, conditions, laid).
  DERIVED. THE GIVEN ROWS OF THIS SEAT. 3 by the template 'for every input the law returns true; each argument reads behind the call as it read before'; 0 by the template 'total and deterministic' (their statements: Qxb6001041aTotals.lean).
  GIVEN WITH THE SEED: the statements are not yours to turn. If you find one false, say at which input.
  Laid BY PROGRAM, IN A SANDBOX (cutbox-rows.mjs): the forced cells as the released guide's own fill.sh prints them over the translation 7fbc1f5d5acaf133… (all of the seat's roots in one cut). By AI agents, Wed Nov 11 2026. No macro, syntax, notation, axiom, sorry.
-/
import Derived.Test.Qxb6001041aChecked
import GoSem.Claim
import GoSem.ClaimJoined
import GoSem.ClaimMapViews
import Derived.JoinedTies
import Derived.KernelRfl
namespace Go.Proofs.Qxb6001041a
/- THE CELL 'sum', in the pinned program and in every row, IS THE sha256 OF THE DUMP (.gsa) THAT Qxb6001041aProg.lean LOADS. Nothing in Lean hashes anything: it is a label: what it is worth is what the hold of that sum in a sandbox is worth. -/
noncomputable def Try.pinned : Pinned := { name := "qxb6001041a", sum := "7fbc1f5d5acaf133162a9d76b4b9238f028b63cd98be813472f8c50de63ebd74", checked := Try.checked }
namespace Rows
def none {H : Type} : Left H := { results := [], args := [] }

/-- 'zzlaws_root_b1.FnOneOfConcatIsOr': WHATEVER THE INPUT: true; the input reads as it did. -/
def fnOneOfConcatIsOrSpec : ChangeSpec := { name := "fnOneOfConcatIsOr", fn := fun _ => fun
  | [d1, d2, d3] => { results := [.lit (.bool true)], args := [d1, d2, d3] }
  | _ => none }
def fnOneOfConcatIsOrRow : OpenClaim := { program := "qxb6001041a", sum := "7fbc1f5d5acaf133162a9d76b4b9238f028b63cd98be813472f8c50de63ebd74", func := "example.com/twofold/twofold/zzlaws_root_b1.FnOneOfConcatIsOr", spec := "fnOneOfConcatIsOr", apart := false }
def FnOneOfConcatIsOrSaid : Prop := fnOneOfConcatIsOrRow.holds Try.pinned (OpenSpec.ofChange fnOneOfConcatIsOrSpec)

/-- ITS FALSE NEIGHBOUR: 'it returns false'. Refute it at one input. -/
def fnOneOfConcatIsOrWrong : ChangeSpec := { name := "fnOneOfConcatIsOr", fn := fun _ => fun
  | [d1, d2, d3] => { results := [.lit (.bool false)], args := [d1, d2, d3] }
  | _ => none }
def FnOneOfConcatIsOrWrongFalsely : Prop := fnOneOfConcatIsOrRow.holds Try.pinned (OpenSpec.ofChange fnOneOfConcatIsOrWrong)

/-- 'zzlaws_root_b1.FnOneOfAcceptsEveryElement': WHATEVER THE INPUT: true; the input reads as it did. -/
def fnOneOfAcceptsEveryElementSpec : ChangeSpec := { name := "fnOneOfAcceptsEveryElement", fn := fun _ => fun
  | [d1, d2] => { results := [.lit (.bool true)], args := [d1, d2] }
  | _ => none }
def fnOneOfAcceptsEveryElementRow : OpenClaim := { program := "qxb6001041a", sum := "7fbc1f5d5acaf133162a9d76b4b9238f028b63cd98be813472f8c50de63ebd74", func := "example.com/twofold/twofold/zzlaws_root_b1.FnOneOfAcceptsEveryElement", spec := "fnOneOfAcceptsEveryElement", apart := false }
def FnOneOfAcceptsEveryElementSaid : Prop := fnOneOfAcceptsEveryElementRow.holds Try.pinned (OpenSpec.ofChange fnOneOfAcceptsEveryElementSpec)

/-- ITS FALSE NEIGHBOUR: 'it returns false'. Refute it at one input. -/
def fnOneOfAcceptsEveryElementWrong : ChangeSpec := { name := "fnOneOfAcceptsEveryElement", fn := fun _ => fun
  | [d1, d2] => { results := [.lit (.bool false)], args := [d1, d2] }
  | _ => none }
def FnOneOfAcceptsEveryElementWrongFalsely : Prop := fnOneOfAcceptsEveryElementRow.holds Try.pinned (OpenSpec.ofChange fnOneOfAcceptsEveryElementWrong)

/-- 'zzlaws_root_b1.FnOneOfIgnoresOrder': WHATEVER THE INPUT: true; the input reads as it did. -/
def fnOneOfIgnoresOrderSpec : ChangeSpec := { name := "fnOneOfIgnoresOrder", fn := fun _ => fun
  | [d1, d2] => { results := [.lit (.bool true)], args := [d1, d2] }
  | _ => none }
def fnOneOfIgnoresOrderRow : OpenClaim := { program := "qxb6001041a", sum := "7fbc1f5d5acaf133162a9d76b4b9238f028b63cd98be813472f8c50de63ebd74", func := "example.com/twofold/twofold/zzlaws_root_b1.FnOneOfIgnoresOrder", spec := "fnOneOfIgnoresOrder", apart := false }
def FnOneOfIgnoresOrderSaid : Prop := fnOneOfIgnoresOrderRow.holds Try.pinned (OpenSpec.ofChange fnOneOfIgnoresOrderSpec)

/-- ITS FALSE NEIGHBOUR: 'it returns false'. Refute it at one input. -/
def fnOneOfIgnoresOrderWrong : ChangeSpec := { name := "fnOneOfIgnoresOrder", fn := fun _ => fun
  | [d1, d2] => { results := [.lit (.bool false)], args := [d1, d2] }
  | _ => none }
def FnOneOfIgnoresOrderWrongFalsely : Prop := fnOneOfIgnoresOrderRow.holds Try.pinned (OpenSpec.ofChange fnOneOfIgnoresOrderWrong)

end Rows
end Go.Proofs.Qxb6001041a
