/-
  No cell of these rows narrows 'for every input' (looked for: loops, veiled, ifaces, maps, wideKeys, modest, calm, conditions, laid).
  DERIVED. THE GIVEN ROWS OF THIS SEAT. 2 by the template 'for every input the law returns true; each argument reads behind the call as it read before'; 0 by the template 'total and deterministic' (their statements: Qxb6616989aTotals.lean).
  GIVEN WITH THE SEED: the statements are not yours to turn. If you find one false, say at which input.
  Laid BY PROGRAM, IN A SANDBOX (cutbox-rows.mjs): the forced cells as the released guide's own fill.sh prints them over the translation bfe12a929e0fb987… (all of the seat's roots in one cut). By AI agents, Wed Nov 11 2026. No macro, syntax, notation, axiom, sorry.
-/
import Derived.Test.Qxb6616989aChecked
import GoSem.Claim
import GoSem.ClaimJoined
import GoSem.ClaimMapViews
import Derived.JoinedTies
import Derived.KernelRfl
namespace Go.Proofs.Qxb6616989a
/- THE CELL 'sum', in the pinned program and in every row, IS THE sha256 OF THE DUMP (.gsa) THAT Qxb6616989aProg.lean LOADS. Nothing in Lean hashes anything: it is a label: what it is worth is what the hold of that sum in a sandbox is worth. -/
noncomputable def Try.pinned : Pinned := { name := "qxb6616989a", sum := "bfe12a929e0fb9872629890be3a463eaa44e7c12c75107a2938fae1930865aa4", checked := Try.checked }
namespace Rows
def none {H : Type} : Left H := { results := [], args := [] }

/-- 'zzlaws_root_b1.FnInboxDrainsInOrderThenReportsClose': WHATEVER THE INPUT: true; the input reads as it did. -/
def fnInboxDrainsInOrderThenReportsCloseSpec : ChangeSpec := { name := "fnInboxDrainsInOrderThenReportsClose", fn := fun _ => fun
  | [d1, d2] => { results := [.lit (.bool true)], args := [d1, d2] }
  | _ => none }
def fnInboxDrainsInOrderThenReportsCloseRow : OpenClaim := { program := "qxb6616989a", sum := "bfe12a929e0fb9872629890be3a463eaa44e7c12c75107a2938fae1930865aa4", func := "example.com/remora/remora/zzlaws_root_b1.FnInboxDrainsInOrderThenReportsClose", spec := "fnInboxDrainsInOrderThenReportsClose", inPlace := ["(*internal/sync.Mutex).Lock", "internal/race.Disable", "sync/atomic.CompareAndSwapInt32", "internal/race.Enable", "internal/race.Acquire", "(*internal/sync.Mutex).lockSlow", "internal/sync.runtime_canSpin", "internal/sync.runtime_doSpin", "internal/sync.throw", "internal/sync.runtime_nanotime", "internal/sync.runtime_SemacquireMutex", "sync/atomic.AddInt32", "(*internal/sync.Mutex).Unlock", "internal/race.ReleaseMerge", "(*internal/sync.Mutex).unlockSlow", "internal/sync.fatal", "internal/sync.runtime_Semrelease"], unfollowed := true, recurses := true, apart := false }
def FnInboxDrainsInOrderThenReportsCloseSaid : Prop := fnInboxDrainsInOrderThenReportsCloseRow.holds Try.pinned (OpenSpec.ofChange fnInboxDrainsInOrderThenReportsCloseSpec)

/-- ITS FALSE NEIGHBOUR: 'it returns false'. Refute it at one input. -/
def fnInboxDrainsInOrderThenReportsCloseWrong : ChangeSpec := { name := "fnInboxDrainsInOrderThenReportsClose", fn := fun _ => fun
  | [d1, d2] => { results := [.lit (.bool false)], args := [d1, d2] }
  | _ => none }
def FnInboxDrainsInOrderThenReportsCloseWrongFalsely : Prop := fnInboxDrainsInOrderThenReportsCloseRow.holds Try.pinned (OpenSpec.ofChange fnInboxDrainsInOrderThenReportsCloseWrong)

/-- 'zzlaws_root_b1.FnInboxKeepsFirstInFirstOutUnderAnyScript': WHATEVER THE INPUT: true; the input reads as it did. -/
def fnInboxKeepsFirstInFirstOutUnderAnyScriptSpec : ChangeSpec := { name := "fnInboxKeepsFirstInFirstOutUnderAnyScript", fn := fun _ => fun
  | [d] => { results := [.lit (.bool true)], args := [d] }
  | _ => none }
def fnInboxKeepsFirstInFirstOutUnderAnyScriptRow : OpenClaim := { program := "qxb6616989a", sum := "bfe12a929e0fb9872629890be3a463eaa44e7c12c75107a2938fae1930865aa4", func := "example.com/remora/remora/zzlaws_root_b1.FnInboxKeepsFirstInFirstOutUnderAnyScript", spec := "fnInboxKeepsFirstInFirstOutUnderAnyScript", inPlace := ["(*internal/sync.Mutex).Lock", "internal/race.Disable", "sync/atomic.CompareAndSwapInt32", "internal/race.Enable", "internal/race.Acquire", "(*internal/sync.Mutex).lockSlow", "internal/sync.runtime_canSpin", "internal/sync.runtime_doSpin", "internal/sync.throw", "internal/sync.runtime_nanotime", "internal/sync.runtime_SemacquireMutex", "sync/atomic.AddInt32", "(*internal/sync.Mutex).Unlock", "internal/race.ReleaseMerge", "(*internal/sync.Mutex).unlockSlow", "internal/sync.fatal", "internal/sync.runtime_Semrelease"], unfollowed := true, recurses := true, apart := false }
def FnInboxKeepsFirstInFirstOutUnderAnyScriptSaid : Prop := fnInboxKeepsFirstInFirstOutUnderAnyScriptRow.holds Try.pinned (OpenSpec.ofChange fnInboxKeepsFirstInFirstOutUnderAnyScriptSpec)

/-- ITS FALSE NEIGHBOUR: 'it returns false'. Refute it at one input. -/
def fnInboxKeepsFirstInFirstOutUnderAnyScriptWrong : ChangeSpec := { name := "fnInboxKeepsFirstInFirstOutUnderAnyScript", fn := fun _ => fun
  | [d] => { results := [.lit (.bool false)], args := [d] }
  | _ => none }
def FnInboxKeepsFirstInFirstOutUnderAnyScriptWrongFalsely : Prop := fnInboxKeepsFirstInFirstOutUnderAnyScriptRow.holds Try.pinned (OpenSpec.ofChange fnInboxKeepsFirstInFirstOutUnderAnyScriptWrong)

end Rows
end Go.Proofs.Qxb6616989a
