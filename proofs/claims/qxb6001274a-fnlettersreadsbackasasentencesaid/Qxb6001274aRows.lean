/-
  No cell of these rows narrows 'for every input' (looked for: loops, veiled, ifaces, maps, wideKeys, modest, calm, conditions, laid).
  DERIVED. THE GIVEN ROWS OF THIS SEAT. 2 by the template 'for every input the law returns true; each argument reads behind the call as it read before'; 0 by the template 'total and deterministic' (their statements: Qxb6001274aTotals.lean).
  GIVEN WITH THE SEED: the statements are not yours to turn. If you find one false, say at which input.
  Laid BY PROGRAM, IN A SANDBOX (cutbox-rows.mjs): the forced cells as the released guide's own fill.sh prints them over the translation 367a84090ff36ebb… (all of the seat's roots in one cut). By AI agents, Wed Nov 11 2026. No macro, syntax, notation, axiom, sorry.
-/
import Derived.Test.Qxb6001274aChecked
import GoSem.Claim
import GoSem.ClaimJoined
import GoSem.ClaimMapViews
import Derived.JoinedTies
import Derived.KernelRfl
namespace Go.Proofs.Qxb6001274a
/- THE CELL 'sum', in the pinned program and in every row, IS THE sha256 OF THE DUMP (.gsa) THAT Qxb6001274aProg.lean LOADS. Nothing in Lean hashes anything: it is a label: what it is worth is what the hold of that sum in a sandbox is worth. -/
noncomputable def Try.pinned : Pinned := { name := "qxb6001274a", sum := "367a84090ff36ebb803c15898727bc76389a3d7a3f0471b1da050aecf4cc7a58", checked := Try.checked }
namespace Rows
def none {H : Type} : Left H := { results := [], args := [] }

/-- 'zzlaws_policy_b1.FnLettersReadsBackAsASentence': WHATEVER THE INPUT: true; the input reads as it did. -/
def fnLettersReadsBackAsASentenceSpec : ChangeSpec := { name := "fnLettersReadsBackAsASentence", fn := fun _ => fun
  | [d] => { results := [.lit (.bool true)], args := [d] }
  | _ => none }
def fnLettersReadsBackAsASentenceRow : OpenClaim := { program := "qxb6001274a", sum := "367a84090ff36ebb803c15898727bc76389a3d7a3f0471b1da050aecf4cc7a58", func := "example.com/bucketlayer/bucketlayer/zzlaws_policy_b1.FnLettersReadsBackAsASentence", spec := "fnLettersReadsBackAsASentence", apart := false }
def FnLettersReadsBackAsASentenceSaid : Prop := fnLettersReadsBackAsASentenceRow.holds Try.pinned (OpenSpec.ofChange fnLettersReadsBackAsASentenceSpec)

/-- ITS FALSE NEIGHBOUR: 'it returns false'. Refute it at one input. -/
def fnLettersReadsBackAsASentenceWrong : ChangeSpec := { name := "fnLettersReadsBackAsASentence", fn := fun _ => fun
  | [d] => { results := [.lit (.bool false)], args := [d] }
  | _ => none }
def FnLettersReadsBackAsASentenceWrongFalsely : Prop := fnLettersReadsBackAsASentenceRow.holds Try.pinned (OpenSpec.ofChange fnLettersReadsBackAsASentenceWrong)

/-- 'zzlaws_policy_b1.FnLettersInjective': WHATEVER THE INPUT: true; the input reads as it did. -/
def fnLettersInjectiveSpec : ChangeSpec := { name := "fnLettersInjective", fn := fun _ => fun
  | [d1, d2] => { results := [.lit (.bool true)], args := [d1, d2] }
  | _ => none }
def fnLettersInjectiveRow : OpenClaim := { program := "qxb6001274a", sum := "367a84090ff36ebb803c15898727bc76389a3d7a3f0471b1da050aecf4cc7a58", func := "example.com/bucketlayer/bucketlayer/zzlaws_policy_b1.FnLettersInjective", spec := "fnLettersInjective", apart := false }
def FnLettersInjectiveSaid : Prop := fnLettersInjectiveRow.holds Try.pinned (OpenSpec.ofChange fnLettersInjectiveSpec)

/-- ITS FALSE NEIGHBOUR: 'it returns false'. Refute it at one input. -/
def fnLettersInjectiveWrong : ChangeSpec := { name := "fnLettersInjective", fn := fun _ => fun
  | [d1, d2] => { results := [.lit (.bool false)], args := [d1, d2] }
  | _ => none }
def FnLettersInjectiveWrongFalsely : Prop := fnLettersInjectiveRow.holds Try.pinned (OpenSpec.ofChange fnLettersInjectiveWrong)

end Rows
end Go.Proofs.Qxb6001274a
