/-
  NARROWER THAN 'FOR EVERY INPUT', by the rows' own cells (each row's printed sentence says how): FnWaitCommittedStoppedTwice: ifaces, laid.
  DERIVED. THE GIVEN ROWS OF THIS SEAT. 1 by the template 'for every input the law returns true; each argument reads behind the call as it read before'; 0 by the template 'total and deterministic' (their statements: Qxb6616082aDoorTotals.lean).
  GIVEN WITH THE SEED: the statements are not yours to turn. If you find one false, say at which input.
  Laid BY PROGRAM, IN A SANDBOX (cutbox-rows.mjs): the forced cells as the released guide's own fill.sh prints them over the translation f80136d30e1898e0… (all of the seat's roots in one cut). By AI agents, Wed Nov 11 2026. No macro, syntax, notation, axiom, sorry.
-/
import Derived.Test.Qxb6616082aDoorChecked
import GoSem.Claim
import GoSem.ClaimJoined
import GoSem.ClaimMapViews
import Derived.JoinedTies
import Derived.KernelRfl
namespace Go.Proofs.Qxb6616082aDoor
/- THE CELL 'sum', in the pinned program and in every row, IS THE sha256 OF THE DUMP (.gsa) THAT Qxb6616082aDoorProg.lean LOADS. Nothing in Lean hashes anything: it is a label: what it is worth is what the hold of that sum in a sandbox is worth. -/
noncomputable def Tryd.pinned : Pinned := { name := "qxb6616082adoor", sum := "f80136d30e1898e02703e184b54d708b5b8dddba490c31f3457950e86cf4e2dd", checked := Tryd.checked }
namespace Rows
def none {H : Type} : Left H := { results := [], args := [] }

/- WHAT THE LISTED PACKAGE-LEVEL VARIABLES READ AS WHEN THE CALL BEGINS. Each datum BY PROGRAM (the guide's laid-datum.mjs) off the statement by which the dump's own 'gosem.cut.vars' lays the variable. In a bare row this is a premise. The card (Qxb6616082aDoorCards.lean) ties it to the program's text. -/
def laid_example_com_foreorder_foreorder_ErrClosed {H : Type} : DataW H := .iface "*errors.errorString" (.ptr (.agg [.lit (.string [102, 111, 114, 101, 111, 114, 100, 101, 114, 58, 32, 99, 108, 111, 115, 101, 100])]))

/-- 'zzlaws_root_b1.FnWaitCommittedStoppedTwice': WHATEVER THE INPUT: true; the input reads as it did. -/
def fnWaitCommittedStoppedTwiceSpec : ChangeSpec := { name := "fnWaitCommittedStoppedTwice", vars := ["example.com/foreorder/foreorder.ErrClosed"], fn := fun _ => fun
  | [d1, d2, d3, g1] => { results := [.lit (.bool true)], args := [d1, d2, d3], vars := [g1] }
  | _ => none }
def fnWaitCommittedStoppedTwiceRow : OpenClaim := { program := "qxb6616082adoor", sum := "f80136d30e1898e02703e184b54d708b5b8dddba490c31f3457950e86cf4e2dd", func := "example.com/foreorder/foreorder/zzlaws_root_b1.FnWaitCommittedStoppedTwice", spec := "fnWaitCommittedStoppedTwice", inPlace := ["(*internal/sync.Mutex).Lock", "internal/race.Disable", "sync/atomic.CompareAndSwapInt32", "internal/race.Enable", "internal/race.Acquire", "(*internal/sync.Mutex).lockSlow", "internal/sync.runtime_canSpin", "internal/sync.runtime_doSpin", "internal/sync.throw", "internal/sync.runtime_nanotime", "internal/sync.runtime_SemacquireMutex", "sync/atomic.AddInt32", "(*internal/sync.Mutex).Unlock", "internal/race.ReleaseMerge", "(*internal/sync.Mutex).unlockSlow", "internal/sync.fatal", "internal/sync.runtime_Semrelease", "internal/reflectlite.TypeOf"], unfollowed := true, recurses := true, named := ["example.com/foreorder/foreorder.ErrClosed"], ifaces := true, plainKeys := false, apart := false, laid := [("example.com/foreorder/foreorder.ErrClosed", laid_example_com_foreorder_foreorder_ErrClosed)] }
def FnWaitCommittedStoppedTwiceSaid : Prop := fnWaitCommittedStoppedTwiceRow.holds Tryd.pinned (OpenSpec.ofChange fnWaitCommittedStoppedTwiceSpec)

/-- ITS FALSE NEIGHBOUR: 'it returns false'. Refute it at one input. -/
def fnWaitCommittedStoppedTwiceWrong : ChangeSpec := { name := "fnWaitCommittedStoppedTwice", vars := ["example.com/foreorder/foreorder.ErrClosed"], fn := fun _ => fun
  | [d1, d2, d3, g1] => { results := [.lit (.bool false)], args := [d1, d2, d3], vars := [g1] }
  | _ => none }
def FnWaitCommittedStoppedTwiceWrongFalsely : Prop := fnWaitCommittedStoppedTwiceRow.holds Tryd.pinned (OpenSpec.ofChange fnWaitCommittedStoppedTwiceWrong)

end Rows
end Go.Proofs.Qxb6616082aDoor
