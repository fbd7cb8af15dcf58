/-
  DERIVED. GIVEN WITH THE SEED: THE CARDS: each row of Qxb6616082aDoorRows.lean that lists a variable, with what it lists TIED to the program's text (the seventh form; the later family's looks); each row that meets fmt, with fmt's text TOLD by the authors' own Lean function (tested against real Go, not proved from fmt's source: count such statements apart). THE CARD IS WHAT COUNTS. Prove the row's statement (the work); the ties are given (Qxb6616082aDoorTie.lean); close each card by the builder's one call (the guide's Derived/Test/ToyasCard.lean, 'card_holds'). Laid BY PROGRAM, IN A SANDBOX (cutbox-door.mjs). By AI agents, Wed Nov 11 2026. No macro, syntax, notation, axiom, sorry.
-/
import Derived.Test.Qxb6616082aDoorRows
import GoSem.ClaimSeven
namespace Go.Proofs.Qxb6616082aDoor
namespace Rows

/-- THE TIED CARD OF 'zzlaws_root_b1.FnWaitCommittedStoppedTwice'. -/
def fnWaitCommittedStoppedTwiceCard : Claim7 := { stood := { row := fnWaitCommittedStoppedTwiceRow, standIns := [], harness := (true, "214ed6860309042857aeab1f61c0fff80a8aacdf39cb54cc363397e188ef1088"), looks := true }, kinds := [], alts := [], laidByText := true, laidKinds := [.sentinel], laidTests := true, laidLooks := .later }
def FnWaitCommittedStoppedTwiceCardSaid : Prop := Claim7.holds Tryd.pinned (.plain (OpenSpec.ofChange fnWaitCommittedStoppedTwiceSpec)) fnWaitCommittedStoppedTwiceCard
end Rows
end Go.Proofs.Qxb6616082aDoor
