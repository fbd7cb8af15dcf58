/-
  No cell of these rows narrows 'for every input' (looked for: loops, veiled, ifaces, maps, wideKeys, modest, calm, conditions, laid).
  DERIVED. THE GIVEN ROWS OF THIS SEAT. 2 by the template 'for every input the law returns true; each argument reads behind the call as it read before'; 0 by the template 'total and deterministic' (their statements: Qxb6616082aTotals.lean).
  GIVEN WITH THE SEED: the statements are not yours to turn. If you find one false, say at which input.
  Laid BY PROGRAM, IN A SANDBOX (cutbox-rows.mjs): the forced cells as the released guide's own fill.sh prints them over the translation 862381ef3f63cd9b… (all of the seat's roots in one cut). By AI agents, Wed Nov 11 2026. No macro, syntax, notation, axiom, sorry.
-/
import Derived.Test.Qxb6616082aChecked
import GoSem.Claim
import GoSem.ClaimJoined
import GoSem.ClaimMapViews
import Derived.JoinedTies
import Derived.KernelRfl
namespace Go.Proofs.Qxb6616082a
/- THE CELL 'sum', in the pinned program and in every row, IS THE sha256 OF THE DUMP (.gsa) THAT Qxb6616082aProg.lean LOADS. Nothing in Lean hashes anything: it is a label: what it is worth is what the hold of that sum in a sandbox is worth. -/
noncomputable def Try.pinned : Pinned := { name := "qxb6616082a", sum := "862381ef3f63cd9b0d08770b8b5e89a58c7fa731404dd250cb28a3f7778202e9", checked := Try.checked }
namespace Rows
def none {H : Type} : Left H := { results := [], args := [] }

/-- 'zzlaws_root_b1.FnHoldRepeatedBatchKeepsNewest': WHATEVER THE INPUT: true; the input reads as it did. -/
def fnHoldRepeatedBatchKeepsNewestSpec : ChangeSpec := { name := "fnHoldRepeatedBatchKeepsNewest", fn := fun _ => fun
  | [d1, d2] => { results := [.lit (.bool true)], args := [d1, d2] }
  | _ => none }
def fnHoldRepeatedBatchKeepsNewestRow : OpenClaim := { program := "qxb6616082a", sum := "862381ef3f63cd9b0d08770b8b5e89a58c7fa731404dd250cb28a3f7778202e9", func := "example.com/foreorder/foreorder/zzlaws_root_b1.FnHoldRepeatedBatchKeepsNewest", spec := "fnHoldRepeatedBatchKeepsNewest", apart := false }
def FnHoldRepeatedBatchKeepsNewestSaid : Prop := fnHoldRepeatedBatchKeepsNewestRow.holds Try.pinned (OpenSpec.ofChange fnHoldRepeatedBatchKeepsNewestSpec)

/-- ITS FALSE NEIGHBOUR: 'it returns false'. Refute it at one input. -/
def fnHoldRepeatedBatchKeepsNewestWrong : ChangeSpec := { name := "fnHoldRepeatedBatchKeepsNewest", fn := fun _ => fun
  | [d1, d2] => { results := [.lit (.bool false)], args := [d1, d2] }
  | _ => none }
def FnHoldRepeatedBatchKeepsNewestWrongFalsely : Prop := fnHoldRepeatedBatchKeepsNewestRow.holds Try.pinned (OpenSpec.ofChange fnHoldRepeatedBatchKeepsNewestWrong)

/-- 'zzlaws_root_b1.FnHoldMixedKeepsNewestSuffix': WHATEVER THE INPUT: true; the input reads as it did. -/
def fnHoldMixedKeepsNewestSuffixSpec : ChangeSpec := { name := "fnHoldMixedKeepsNewestSuffix", fn := fun _ => fun
  | [d1, d2, d3] => { results := [.lit (.bool true)], args := [d1, d2, d3] }
  | _ => none }
def fnHoldMixedKeepsNewestSuffixRow : OpenClaim := { program := "qxb6616082a", sum := "862381ef3f63cd9b0d08770b8b5e89a58c7fa731404dd250cb28a3f7778202e9", func := "example.com/foreorder/foreorder/zzlaws_root_b1.FnHoldMixedKeepsNewestSuffix", spec := "fnHoldMixedKeepsNewestSuffix", apart := false }
def FnHoldMixedKeepsNewestSuffixSaid : Prop := fnHoldMixedKeepsNewestSuffixRow.holds Try.pinned (OpenSpec.ofChange fnHoldMixedKeepsNewestSuffixSpec)

/-- ITS FALSE NEIGHBOUR: 'it returns false'. Refute it at one input. -/
def fnHoldMixedKeepsNewestSuffixWrong : ChangeSpec := { name := "fnHoldMixedKeepsNewestSuffix", fn := fun _ => fun
  | [d1, d2, d3] => { results := [.lit (.bool false)], args := [d1, d2, d3] }
  | _ => none }
def FnHoldMixedKeepsNewestSuffixWrongFalsely : Prop := fnHoldMixedKeepsNewestSuffixRow.holds Try.pinned (OpenSpec.ofChange fnHoldMixedKeepsNewestSuffixWrong)

end Rows
end Go.Proofs.Qxb6616082a
