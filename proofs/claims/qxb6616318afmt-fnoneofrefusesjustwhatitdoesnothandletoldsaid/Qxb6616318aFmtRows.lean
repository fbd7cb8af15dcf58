/-
  No cell of these rows narrows 'for every input' (looked for: loops, veiled, ifaces, maps, wideKeys, modest, calm, conditions, laid).
  DERIVED. THE GIVEN ROWS OF THIS SEAT. 1 by the template 'for every input the law returns true; each argument reads behind the call as it read before'; 0 by the template 'total and deterministic' (their statements: Qxb6616318aFmtTotals.lean).
  GIVEN WITH THE SEED: the statements are not yours to turn. If you find one false, say at which input.
  Laid BY PROGRAM, IN A SANDBOX (cutbox-rows.mjs): the forced cells as the released guide's own fill.sh prints them over the translation 7dc5efed2fa1e4ca… (all of the seat's roots in one cut). By AI agents, Wed Nov 11 2026. No macro, syntax, notation, axiom, sorry.
-/
import Derived.Test.Qxb6616318aFmtChecked
import GoSem.Claim
import GoSem.ClaimJoined
import GoSem.ClaimMapViews
import Derived.JoinedTies
import Derived.KernelRfl
namespace Go.Proofs.Qxb6616318aFmt
/- THE CELL 'sum', in the pinned program and in every row, IS THE sha256 OF THE DUMP (.gsa) THAT Qxb6616318aFmtProg.lean LOADS. Nothing in Lean hashes anything: it is a label: what it is worth is what the hold of that sum in a sandbox is worth. -/
noncomputable def Tryf.pinned : Pinned := { name := "qxb6616318afmt", sum := "7dc5efed2fa1e4cad9c8238fd35dcb3090eca16d52e6d1a3edccd74b9b2f7a6b", checked := Tryf.checked }
namespace Rows
def none {H : Type} : Left H := { results := [], args := [] }

/-- 'zzlaws_pkg_terms_b1.FnOneOfRefusesJustWhatItDoesNotHandle': WHATEVER THE INPUT: true; the input reads as it did. -/
def fnOneOfRefusesJustWhatItDoesNotHandleSpec : ChangeSpec := { name := "fnOneOfRefusesJustWhatItDoesNotHandle", fn := fun _ => fun
  | [d1, d2, d3, d4] => { results := [.lit (.bool true)], args := [d1, d2, d3, d4] }
  | _ => none }
def fnOneOfRefusesJustWhatItDoesNotHandleRow : OpenClaim := { program := "qxb6616318afmt", sum := "7dc5efed2fa1e4cad9c8238fd35dcb3090eca16d52e6d1a3edccd74b9b2f7a6b", func := "example.com/tenderline/tenderline/zzlaws_pkg_terms_b1.FnOneOfRefusesJustWhatItDoesNotHandle", spec := "fnOneOfRefusesJustWhatItDoesNotHandle", stops := ["fmt.errorf"], inPlace := ["internal/abi.NoEscape", "internal/bytealg.MakeNoZero", "fmt.errorf"], unfollowed := true, recurses := true, apart := false }
/-- NO THEOREM (fmt's text is open here; it may be false): for the released tool's asking of the row's closed facts alone. THE STATEMENT IS 'FnOneOfRefusesJustWhatItDoesNotHandleToldSaid' (Qxb6616318aFmtCards.lean). -/
def FnOneOfRefusesJustWhatItDoesNotHandleFormAsk : Prop := fnOneOfRefusesJustWhatItDoesNotHandleRow.holds Tryf.pinned (OpenSpec.ofChange fnOneOfRefusesJustWhatItDoesNotHandleSpec)

/-- ITS FALSE NEIGHBOUR: 'it returns false'. Refute it at one input. -/
def fnOneOfRefusesJustWhatItDoesNotHandleWrong : ChangeSpec := { name := "fnOneOfRefusesJustWhatItDoesNotHandle", fn := fun _ => fun
  | [d1, d2, d3, d4] => { results := [.lit (.bool false)], args := [d1, d2, d3, d4] }
  | _ => none }
def FnOneOfRefusesJustWhatItDoesNotHandleWrongFormAsk : Prop := fnOneOfRefusesJustWhatItDoesNotHandleRow.holds Tryf.pinned (OpenSpec.ofChange fnOneOfRefusesJustWhatItDoesNotHandleWrong)

end Rows
end Go.Proofs.Qxb6616318aFmt
