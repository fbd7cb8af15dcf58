/-
  DERIVED. GIVEN WITH THE SEED: THE CARDS: each row of Qxb6616318aFmtRows.lean that lists a variable, with what it lists TIED to the program's text (the seventh form; the later family's looks); each row that meets fmt, with fmt's text TOLD by the authors' own Lean function (tested against real Go, not proved from fmt's source: count such statements apart). THE CARD IS WHAT COUNTS. Prove the row's statement (the work); the ties are given (Qxb6616318aFmtTie.lean); close each card by the builder's one call (the guide's Derived/Test/ToyasCard.lean, 'card_holds'). Laid BY PROGRAM, IN A SANDBOX (cutbox-door.mjs). By AI agents, Wed Nov 11 2026. No macro, syntax, notation, axiom, sorry.
-/
import Derived.Test.Qxb6616318aFmtRows
import GoSem.ClaimSeven
namespace Go.Proofs.Qxb6616318aFmt
namespace Rows

/-- THE TOLD CARD OF 'zzlaws_pkg_terms_b1.FnOneOfRefusesJustWhatItDoesNotHandle'. -/
def fnOneOfRefusesJustWhatItDoesNotHandleCard : Claim7 := { stood := { row := fnOneOfRefusesJustWhatItDoesNotHandleRow, standIns := [], harness := (true, "8da1cc60eb9c4d02866fc3634722422caebbc3ad720aa5da78dbd806f58cb008"), looks := false }, told := true, goes := false }
def FnOneOfRefusesJustWhatItDoesNotHandleToldSaid : Prop := Claim7.holds Tryf.pinned (.plain (OpenSpec.ofChange fnOneOfRefusesJustWhatItDoesNotHandleSpec)) fnOneOfRefusesJustWhatItDoesNotHandleCard
/-- ITS FALSE NEIGHBOUR. Refute it at one input. -/
def FnOneOfRefusesJustWhatItDoesNotHandleToldWrongFalsely : Prop := Claim7.holds Tryf.pinned (.plain (OpenSpec.ofChange fnOneOfRefusesJustWhatItDoesNotHandleWrong)) fnOneOfRefusesJustWhatItDoesNotHandleCard
end Rows
end Go.Proofs.Qxb6616318aFmt
