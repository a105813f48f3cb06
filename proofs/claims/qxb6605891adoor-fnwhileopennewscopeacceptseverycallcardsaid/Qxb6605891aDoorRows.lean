/-
  NARROWER THAN 'FOR EVERY INPUT', by the rows' own cells (each row's printed sentence says how): FnWhileOpenRunsExactlyWhenOpen: ifaces, laid · FnWhileOpenNewScopeAcceptsEveryCall: ifaces, laid.
  DERIVED. THE GIVEN ROWS OF THIS SEAT. 2 by the template 'for every input the law returns true; each argument reads behind the call as it read before'; 0 by the template 'total and deterministic' (their statements: Qxb6605891aDoorTotals.lean).
  GIVEN WITH THE SEED: the statements are not yours to turn. If you find one false, say at which input.
  Laid BY PROGRAM, IN A SANDBOX (cutbox-rows.mjs): the forced cells as the released guide's own fill.sh prints them over the translation cb293d10ed052449… (all of the seat's roots in one cut). By AI agents, Wed Nov 11 2026. No macro, syntax, notation, axiom, sorry.
-/
import Derived.Test.Qxb6605891aDoorChecked
import GoSem.Claim
import GoSem.ClaimJoined
import GoSem.ClaimMapViews
import Derived.JoinedTies
import Derived.KernelRfl
namespace Go.Proofs.Qxb6605891aDoor
/- THE CELL 'sum', in the pinned program and in every row, IS THE sha256 OF THE DUMP (.gsa) THAT Qxb6605891aDoorProg.lean LOADS. Nothing in Lean hashes anything: it is a label: what it is worth is what the hold of that sum in a sandbox is worth. -/
noncomputable def Tryd.pinned : Pinned := { name := "qxb6605891adoor", sum := "cb293d10ed0524494b86162aa48d9d0b28932149122112c4af75649f081c9a1d", checked := Tryd.checked }
namespace Rows
def none {H : Type} : Left H := { results := [], args := [] }

/- WHAT THE LISTED PACKAGE-LEVEL VARIABLES READ AS WHEN THE CALL BEGINS. Each datum BY PROGRAM (the guide's laid-datum.mjs) off the statement by which the dump's own 'gosem.cut.vars' lays the variable. In a bare row this is a premise. The card (Qxb6605891aDoorCards.lean) ties it to the program's text. -/
def laid_example_com_usnea_usnea_ErrScopeClosed {H : Type} : DataW H := .iface "*errors.errorString" (.ptr (.agg [.lit (.string [117, 115, 110, 101, 97, 58, 32, 115, 99, 111, 112, 101, 32, 105, 115, 32, 99, 108, 111, 115, 101, 100])]))

/-- 'zzlaws_root_b1.FnWhileOpenRunsExactlyWhenOpen': WHATEVER THE INPUT: true; the input reads as it did. -/
def fnWhileOpenRunsExactlyWhenOpenSpec : ChangeSpec := { name := "fnWhileOpenRunsExactlyWhenOpen", vars := ["example.com/usnea/usnea.ErrScopeClosed"], fn := fun _ => fun
  | [d, g1] => { results := [.lit (.bool true)], args := [d], vars := [g1] }
  | _ => none }
def fnWhileOpenRunsExactlyWhenOpenRow : OpenClaim := { program := "qxb6605891adoor", sum := "cb293d10ed0524494b86162aa48d9d0b28932149122112c4af75649f081c9a1d", func := "example.com/usnea/usnea/zzlaws_root_b1.FnWhileOpenRunsExactlyWhenOpen", spec := "fnWhileOpenRunsExactlyWhenOpen", inPlace := ["(*internal/sync.Mutex).Lock", "internal/race.Disable", "sync/atomic.CompareAndSwapInt32", "internal/race.Enable", "internal/race.Acquire", "(*internal/sync.Mutex).lockSlow", "internal/sync.runtime_canSpin", "internal/sync.runtime_doSpin", "internal/sync.throw", "internal/sync.runtime_nanotime", "internal/sync.runtime_SemacquireMutex", "sync/atomic.AddInt32", "(*internal/sync.Mutex).Unlock", "internal/race.ReleaseMerge", "(*internal/sync.Mutex).unlockSlow", "internal/sync.fatal", "internal/sync.runtime_Semrelease", "(*internal/sync.Mutex).TryLock"], unfollowed := true, recurses := true, named := ["example.com/usnea/usnea.ErrScopeClosed"], ifaces := true, apart := false, laid := [("example.com/usnea/usnea.ErrScopeClosed", laid_example_com_usnea_usnea_ErrScopeClosed)] }
def FnWhileOpenRunsExactlyWhenOpenSaid : Prop := fnWhileOpenRunsExactlyWhenOpenRow.holds Tryd.pinned (OpenSpec.ofChange fnWhileOpenRunsExactlyWhenOpenSpec)

/-- ITS FALSE NEIGHBOUR: 'it returns false'. Refute it at one input. -/
def fnWhileOpenRunsExactlyWhenOpenWrong : ChangeSpec := { name := "fnWhileOpenRunsExactlyWhenOpen", vars := ["example.com/usnea/usnea.ErrScopeClosed"], fn := fun _ => fun
  | [d, g1] => { results := [.lit (.bool false)], args := [d], vars := [g1] }
  | _ => none }
def FnWhileOpenRunsExactlyWhenOpenWrongFalsely : Prop := fnWhileOpenRunsExactlyWhenOpenRow.holds Tryd.pinned (OpenSpec.ofChange fnWhileOpenRunsExactlyWhenOpenWrong)

/-- 'zzlaws_root_b1.FnWhileOpenNewScopeAcceptsEveryCall': WHATEVER THE INPUT: true; the input reads as it did. -/
def fnWhileOpenNewScopeAcceptsEveryCallSpec : ChangeSpec := { name := "fnWhileOpenNewScopeAcceptsEveryCall", vars := ["example.com/usnea/usnea.ErrScopeClosed"], fn := fun _ => fun
  | [d, g1] => { results := [.lit (.bool true)], args := [d], vars := [g1] }
  | _ => none }
def fnWhileOpenNewScopeAcceptsEveryCallRow : OpenClaim := { program := "qxb6605891adoor", sum := "cb293d10ed0524494b86162aa48d9d0b28932149122112c4af75649f081c9a1d", func := "example.com/usnea/usnea/zzlaws_root_b1.FnWhileOpenNewScopeAcceptsEveryCall", spec := "fnWhileOpenNewScopeAcceptsEveryCall", inPlace := ["(*internal/sync.Mutex).Lock", "internal/race.Disable", "sync/atomic.CompareAndSwapInt32", "internal/race.Enable", "internal/race.Acquire", "(*internal/sync.Mutex).lockSlow", "internal/sync.runtime_canSpin", "internal/sync.runtime_doSpin", "internal/sync.throw", "internal/sync.runtime_nanotime", "internal/sync.runtime_SemacquireMutex", "sync/atomic.AddInt32", "(*internal/sync.Mutex).Unlock", "internal/race.ReleaseMerge", "(*internal/sync.Mutex).unlockSlow", "internal/sync.fatal", "internal/sync.runtime_Semrelease", "(*internal/sync.Mutex).TryLock"], unfollowed := true, recurses := true, named := ["example.com/usnea/usnea.ErrScopeClosed"], ifaces := true, apart := false, laid := [("example.com/usnea/usnea.ErrScopeClosed", laid_example_com_usnea_usnea_ErrScopeClosed)] }
def FnWhileOpenNewScopeAcceptsEveryCallSaid : Prop := fnWhileOpenNewScopeAcceptsEveryCallRow.holds Tryd.pinned (OpenSpec.ofChange fnWhileOpenNewScopeAcceptsEveryCallSpec)

/-- ITS FALSE NEIGHBOUR: 'it returns false'. Refute it at one input. -/
def fnWhileOpenNewScopeAcceptsEveryCallWrong : ChangeSpec := { name := "fnWhileOpenNewScopeAcceptsEveryCall", vars := ["example.com/usnea/usnea.ErrScopeClosed"], fn := fun _ => fun
  | [d, g1] => { results := [.lit (.bool false)], args := [d], vars := [g1] }
  | _ => none }
def FnWhileOpenNewScopeAcceptsEveryCallWrongFalsely : Prop := fnWhileOpenNewScopeAcceptsEveryCallRow.holds Tryd.pinned (OpenSpec.ofChange fnWhileOpenNewScopeAcceptsEveryCallWrong)

end Rows
end Go.Proofs.Qxb6605891aDoor
