/-
  No cell of these rows narrows 'for every input' (looked for: loops, veiled, ifaces, maps, wideKeys, modest, calm, conditions, laid).
  DERIVED. THE GIVEN ROWS OF THIS SEAT. 4 by the template 'for every input the law returns true; each argument reads behind the call as it read before'; 0 by the template 'total and deterministic' (their statements: Qxb6616088aTotals.lean).
  GIVEN WITH THE SEED: the statements are not yours to turn. If you find one false, say at which input.
  Laid BY PROGRAM, IN A SANDBOX (cutbox-rows.mjs): the forced cells as the released guide's own fill.sh prints them over the translation c018383ca9c362e6… (all of the seat's roots in one cut). By AI agents, Wed Nov 11 2026. No macro, syntax, notation, axiom, sorry.
-/
import Derived.Test.Qxb6616088aChecked
import GoSem.Claim
import GoSem.ClaimJoined
import GoSem.ClaimMapViews
import Derived.JoinedTies
import Derived.KernelRfl
namespace Go.Proofs.Qxb6616088a
/- THE CELL 'sum', in the pinned program and in every row, IS THE sha256 OF THE DUMP (.gsa) THAT Qxb6616088aProg.lean LOADS. Nothing in Lean hashes anything: it is a label: what it is worth is what the hold of that sum in a sandbox is worth. -/
noncomputable def Try.pinned : Pinned := { name := "qxb6616088a", sum := "c018383ca9c362e6a9e90ae87a8f8d1db358c36b39ed4511f0aeff92ab568011", checked := Try.checked }
namespace Rows
def none {H : Type} : Left H := { results := [], args := [] }

/-- 'zzlaws_internal_site_b1.FnAsProbeRestampOverrides': WHATEVER THE INPUT: true; the input reads as it did. -/
def fnAsProbeRestampOverridesSpec : ChangeSpec := { name := "fnAsProbeRestampOverrides", fn := fun _ => fun
  | [d1, d2, d3, d4, d5, d6, d7] => { results := [.lit (.bool true)], args := [d1, d2, d3, d4, d5, d6, d7] }
  | _ => none }
def fnAsProbeRestampOverridesRow : OpenClaim := { program := "qxb6616088a", sum := "c018383ca9c362e6a9e90ae87a8f8d1db358c36b39ed4511f0aeff92ab568011", func := "example.com/knotwarden/knotwarden/zzlaws_internal_site_b1.FnAsProbeRestampOverrides", spec := "fnAsProbeRestampOverrides", plainKeys := false, apart := false }
def FnAsProbeRestampOverridesSaid : Prop := fnAsProbeRestampOverridesRow.holds Try.pinned (OpenSpec.ofChange fnAsProbeRestampOverridesSpec)

/-- ITS FALSE NEIGHBOUR: 'it returns false'. Refute it at one input. -/
def fnAsProbeRestampOverridesWrong : ChangeSpec := { name := "fnAsProbeRestampOverrides", fn := fun _ => fun
  | [d1, d2, d3, d4, d5, d6, d7] => { results := [.lit (.bool false)], args := [d1, d2, d3, d4, d5, d6, d7] }
  | _ => none }
def FnAsProbeRestampOverridesWrongFalsely : Prop := fnAsProbeRestampOverridesRow.holds Try.pinned (OpenSpec.ofChange fnAsProbeRestampOverridesWrong)

/-- 'zzlaws_internal_site_b1.FnAsProbeWalkSiteNotCarriedForkOnlyOnPath': WHATEVER THE INPUT: true; the input reads as it did. -/
def fnAsProbeWalkSiteNotCarriedForkOnlyOnPathSpec : ChangeSpec := { name := "fnAsProbeWalkSiteNotCarriedForkOnlyOnPath", fn := fun _ => fun
  | [d1, d2, d3, d4, d5, d6] => { results := [.lit (.bool true)], args := [d1, d2, d3, d4, d5, d6] }
  | _ => none }
def fnAsProbeWalkSiteNotCarriedForkOnlyOnPathRow : OpenClaim := { program := "qxb6616088a", sum := "c018383ca9c362e6a9e90ae87a8f8d1db358c36b39ed4511f0aeff92ab568011", func := "example.com/knotwarden/knotwarden/zzlaws_internal_site_b1.FnAsProbeWalkSiteNotCarriedForkOnlyOnPath", spec := "fnAsProbeWalkSiteNotCarriedForkOnlyOnPath", plainKeys := false, apart := false }
def FnAsProbeWalkSiteNotCarriedForkOnlyOnPathSaid : Prop := fnAsProbeWalkSiteNotCarriedForkOnlyOnPathRow.holds Try.pinned (OpenSpec.ofChange fnAsProbeWalkSiteNotCarriedForkOnlyOnPathSpec)

/-- ITS FALSE NEIGHBOUR: 'it returns false'. Refute it at one input. -/
def fnAsProbeWalkSiteNotCarriedForkOnlyOnPathWrong : ChangeSpec := { name := "fnAsProbeWalkSiteNotCarriedForkOnlyOnPath", fn := fun _ => fun
  | [d1, d2, d3, d4, d5, d6] => { results := [.lit (.bool false)], args := [d1, d2, d3, d4, d5, d6] }
  | _ => none }
def FnAsProbeWalkSiteNotCarriedForkOnlyOnPathWrongFalsely : Prop := fnAsProbeWalkSiteNotCarriedForkOnlyOnPathRow.holds Try.pinned (OpenSpec.ofChange fnAsProbeWalkSiteNotCarriedForkOnlyOnPathWrong)

/-- 'zzlaws_internal_site_b1.FnLessExactlyOneOfBeforeAfterTied': WHATEVER THE INPUT: true; the input reads as it did. -/
def fnLessExactlyOneOfBeforeAfterTiedSpec : ChangeSpec := { name := "fnLessExactlyOneOfBeforeAfterTied", fn := fun _ => fun
  | [d1, d2, d3] => { results := [.lit (.bool true)], args := [d1, d2, d3] }
  | _ => none }
def fnLessExactlyOneOfBeforeAfterTiedRow : OpenClaim := { program := "qxb6616088a", sum := "c018383ca9c362e6a9e90ae87a8f8d1db358c36b39ed4511f0aeff92ab568011", func := "example.com/knotwarden/knotwarden/zzlaws_internal_site_b1.FnLessExactlyOneOfBeforeAfterTied", spec := "fnLessExactlyOneOfBeforeAfterTied", plainKeys := false, apart := false }
def FnLessExactlyOneOfBeforeAfterTiedSaid : Prop := fnLessExactlyOneOfBeforeAfterTiedRow.holds Try.pinned (OpenSpec.ofChange fnLessExactlyOneOfBeforeAfterTiedSpec)

/-- ITS FALSE NEIGHBOUR: 'it returns false'. Refute it at one input. -/
def fnLessExactlyOneOfBeforeAfterTiedWrong : ChangeSpec := { name := "fnLessExactlyOneOfBeforeAfterTied", fn := fun _ => fun
  | [d1, d2, d3] => { results := [.lit (.bool false)], args := [d1, d2, d3] }
  | _ => none }
def FnLessExactlyOneOfBeforeAfterTiedWrongFalsely : Prop := fnLessExactlyOneOfBeforeAfterTiedRow.holds Try.pinned (OpenSpec.ofChange fnLessExactlyOneOfBeforeAfterTiedWrong)

/-- 'zzlaws_internal_site_b1.FnLessScanMinimumIsEarliestLease': WHATEVER THE INPUT: true; the input reads as it did. -/
def fnLessScanMinimumIsEarliestLeaseSpec : ChangeSpec := { name := "fnLessScanMinimumIsEarliestLease", fn := fun _ => fun
  | [d] => { results := [.lit (.bool true)], args := [d] }
  | _ => none }
def fnLessScanMinimumIsEarliestLeaseRow : OpenClaim := { program := "qxb6616088a", sum := "c018383ca9c362e6a9e90ae87a8f8d1db358c36b39ed4511f0aeff92ab568011", func := "example.com/knotwarden/knotwarden/zzlaws_internal_site_b1.FnLessScanMinimumIsEarliestLease", spec := "fnLessScanMinimumIsEarliestLease", plainKeys := false, apart := false }
def FnLessScanMinimumIsEarliestLeaseSaid : Prop := fnLessScanMinimumIsEarliestLeaseRow.holds Try.pinned (OpenSpec.ofChange fnLessScanMinimumIsEarliestLeaseSpec)

/-- ITS FALSE NEIGHBOUR: 'it returns false'. Refute it at one input. -/
def fnLessScanMinimumIsEarliestLeaseWrong : ChangeSpec := { name := "fnLessScanMinimumIsEarliestLease", fn := fun _ => fun
  | [d] => { results := [.lit (.bool false)], args := [d] }
  | _ => none }
def FnLessScanMinimumIsEarliestLeaseWrongFalsely : Prop := fnLessScanMinimumIsEarliestLeaseRow.holds Try.pinned (OpenSpec.ofChange fnLessScanMinimumIsEarliestLeaseWrong)

end Rows
end Go.Proofs.Qxb6616088a
