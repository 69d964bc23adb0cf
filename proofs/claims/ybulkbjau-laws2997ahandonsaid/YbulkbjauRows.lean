/-
  No cell of these rows narrows 'for every input' (looked for: loops, veiled, ifaces, maps, wideKeys, modest, calm, conditions, laid).
  DERIVED. THE GIVEN ROWS OF THIS SEAT. 4 by the template 'for every input the law returns true; each argument reads behind the call as it read before'; 0 by the template 'total and deterministic' (their statements: YbulkbjauTotals.lean).
  GIVEN WITH THE SEED: the statements are not yours to turn. If you find one false, say at which input.
  Laid BY PROGRAM, IN A SANDBOX (cutbox-rows.mjs): the forced cells as the released guide's own fill.sh prints them over the translation 8122a51c81ff0081… (all of the seat's roots in one cut). By AI agents, Wed Nov 11 2026. No macro, syntax, notation, axiom, sorry.
-/
import Derived.Test.YbulkbjauChecked
import GoSem.Claim
import GoSem.ClaimJoined
import GoSem.ClaimMapViews
import Derived.JoinedTies
import Derived.KernelRfl
namespace Go.Proofs.Ybulkbjau
/- THE CELL 'sum', in the pinned program and in every row, IS THE sha256 OF THE DUMP (.gsa) THAT YbulkbjauProg.lean LOADS. Nothing in Lean hashes anything: it is a label: what it is worth is what the hold of that sum in a sandbox is worth. -/
noncomputable def Yba.pinned : Pinned := { name := "ybulkbjau", sum := "8122a51c81ff0081447b2eb402e748ad67c62445aa33544fc65ff750c18e2cf8", checked := Yba.checked }
namespace Rows
def none {H : Type} : Left H := { results := [], args := [] }

/-- 'irondequoit.LawS2997AHandOn': WHATEVER THE INPUT: true; the input reads as it did. -/
def lawS2997AHandOnSpec : ChangeSpec := { name := "lawS2997AHandOn", fn := fun _ => fun
  | [d1, d2, d3, d4] => { results := [.lit (.bool true)], args := [d1, d2, d3, d4] }
  | _ => none }
def lawS2997AHandOnRow : OpenClaim := { program := "ybulkbjau", sum := "8122a51c81ff0081447b2eb402e748ad67c62445aa33544fc65ff750c18e2cf8", func := "example.com/irondequoit/irondequoit.LawS2997AHandOn", spec := "lawS2997AHandOn", inPlace := ["(*internal/sync.Mutex).Lock", "internal/race.Disable", "sync/atomic.CompareAndSwapInt32", "internal/race.Enable", "internal/race.Acquire", "(*internal/sync.Mutex).lockSlow", "internal/sync.runtime_canSpin", "internal/sync.runtime_doSpin", "internal/sync.throw", "internal/sync.runtime_nanotime", "internal/sync.runtime_SemacquireMutex", "sync/atomic.AddInt32", "(*internal/sync.Mutex).Unlock", "internal/race.ReleaseMerge", "(*internal/sync.Mutex).unlockSlow", "internal/sync.fatal", "internal/sync.runtime_Semrelease", "(*internal/sync.Mutex).TryLock"], unfollowed := true, recurses := true, apart := false }
def LawS2997AHandOnSaid : Prop := lawS2997AHandOnRow.holds Yba.pinned (OpenSpec.ofChange lawS2997AHandOnSpec)

/-- ITS FALSE NEIGHBOUR: 'it returns false'. Refute it at one input. -/
def lawS2997AHandOnWrong : ChangeSpec := { name := "lawS2997AHandOn", fn := fun _ => fun
  | [d1, d2, d3, d4] => { results := [.lit (.bool false)], args := [d1, d2, d3, d4] }
  | _ => none }
def LawS2997AHandOnWrongFalsely : Prop := lawS2997AHandOnRow.holds Yba.pinned (OpenSpec.ofChange lawS2997AHandOnWrong)

/-- 'irondequoit.LawS2997AShrink': WHATEVER THE INPUT: true; the input reads as it did. -/
def lawS2997AShrinkSpec : ChangeSpec := { name := "lawS2997AShrink", fn := fun _ => fun
  | [d1, d2, d3] => { results := [.lit (.bool true)], args := [d1, d2, d3] }
  | _ => none }
def lawS2997AShrinkRow : OpenClaim := { program := "ybulkbjau", sum := "8122a51c81ff0081447b2eb402e748ad67c62445aa33544fc65ff750c18e2cf8", func := "example.com/irondequoit/irondequoit.LawS2997AShrink", spec := "lawS2997AShrink", inPlace := ["(*internal/sync.Mutex).Lock", "internal/race.Disable", "sync/atomic.CompareAndSwapInt32", "internal/race.Enable", "internal/race.Acquire", "(*internal/sync.Mutex).lockSlow", "internal/sync.runtime_canSpin", "internal/sync.runtime_doSpin", "internal/sync.throw", "internal/sync.runtime_nanotime", "internal/sync.runtime_SemacquireMutex", "sync/atomic.AddInt32", "(*internal/sync.Mutex).Unlock", "internal/race.ReleaseMerge", "(*internal/sync.Mutex).unlockSlow", "internal/sync.fatal", "internal/sync.runtime_Semrelease"], apart := false }
def LawS2997AShrinkSaid : Prop := lawS2997AShrinkRow.holds Yba.pinned (OpenSpec.ofChange lawS2997AShrinkSpec)

/-- ITS FALSE NEIGHBOUR: 'it returns false'. Refute it at one input. -/
def lawS2997AShrinkWrong : ChangeSpec := { name := "lawS2997AShrink", fn := fun _ => fun
  | [d1, d2, d3] => { results := [.lit (.bool false)], args := [d1, d2, d3] }
  | _ => none }
def LawS2997AShrinkWrongFalsely : Prop := lawS2997AShrinkRow.holds Yba.pinned (OpenSpec.ofChange lawS2997AShrinkWrong)

/-- 'irondequoit.LawS2997CFirstWins': WHATEVER THE INPUT: true; the input reads as it did. -/
def lawS2997CFirstWinsSpec : ChangeSpec := { name := "lawS2997CFirstWins", fn := fun _ => fun
  | [d] => { results := [.lit (.bool true)], args := [d] }
  | _ => none }
def lawS2997CFirstWinsRow : OpenClaim := { program := "ybulkbjau", sum := "8122a51c81ff0081447b2eb402e748ad67c62445aa33544fc65ff750c18e2cf8", func := "example.com/irondequoit/irondequoit.LawS2997CFirstWins", spec := "lawS2997CFirstWins", inPlace := ["sync/atomic.LoadUint32", "(*internal/sync.Mutex).Lock", "internal/race.Disable", "sync/atomic.CompareAndSwapInt32", "internal/race.Enable", "internal/race.Acquire", "(*internal/sync.Mutex).lockSlow", "internal/sync.runtime_canSpin", "internal/sync.runtime_doSpin", "internal/sync.throw", "internal/sync.runtime_nanotime", "internal/sync.runtime_SemacquireMutex", "sync/atomic.AddInt32", "(*internal/sync.Mutex).Unlock", "internal/race.ReleaseMerge", "(*internal/sync.Mutex).unlockSlow", "internal/sync.fatal", "internal/sync.runtime_Semrelease", "sync/atomic.StoreUint32"], unfollowed := true, recurses := true, apart := false }
def LawS2997CFirstWinsSaid : Prop := lawS2997CFirstWinsRow.holds Yba.pinned (OpenSpec.ofChange lawS2997CFirstWinsSpec)

/-- ITS FALSE NEIGHBOUR: 'it returns false'. Refute it at one input. -/
def lawS2997CFirstWinsWrong : ChangeSpec := { name := "lawS2997CFirstWins", fn := fun _ => fun
  | [d] => { results := [.lit (.bool false)], args := [d] }
  | _ => none }
def LawS2997CFirstWinsWrongFalsely : Prop := lawS2997CFirstWinsRow.holds Yba.pinned (OpenSpec.ofChange lawS2997CFirstWinsWrong)

/-- 'irondequoit.LawS2997CWaitAfter': WHATEVER THE INPUT: true; the input reads as it did. -/
def lawS2997CWaitAfterSpec : ChangeSpec := { name := "lawS2997CWaitAfter", fn := fun _ => fun
  | [d] => { results := [.lit (.bool true)], args := [d] }
  | _ => none }
def lawS2997CWaitAfterRow : OpenClaim := { program := "ybulkbjau", sum := "8122a51c81ff0081447b2eb402e748ad67c62445aa33544fc65ff750c18e2cf8", func := "example.com/irondequoit/irondequoit.LawS2997CWaitAfter", spec := "lawS2997CWaitAfter", inPlace := ["sync/atomic.LoadUint32", "(*internal/sync.Mutex).Lock", "internal/race.Disable", "sync/atomic.CompareAndSwapInt32", "internal/race.Enable", "internal/race.Acquire", "(*internal/sync.Mutex).lockSlow", "internal/sync.runtime_canSpin", "internal/sync.runtime_doSpin", "internal/sync.throw", "internal/sync.runtime_nanotime", "internal/sync.runtime_SemacquireMutex", "sync/atomic.AddInt32", "(*internal/sync.Mutex).Unlock", "internal/race.ReleaseMerge", "(*internal/sync.Mutex).unlockSlow", "internal/sync.fatal", "internal/sync.runtime_Semrelease", "sync/atomic.StoreUint32", "(*sync.WaitGroup).Wait", "sync/atomic.LoadUint64", "internal/synctest.IsAssociated[sync.WaitGroup]", "sync/atomic.CompareAndSwapUint64", "internal/synctest.Disassociate[sync.WaitGroup]", "internal/race.Write", "internal/synctest.IsInBubble", "sync.runtime_SemacquireWaitGroup"], unfollowed := true, recurses := true, apart := false }
def LawS2997CWaitAfterSaid : Prop := lawS2997CWaitAfterRow.holds Yba.pinned (OpenSpec.ofChange lawS2997CWaitAfterSpec)

/-- ITS FALSE NEIGHBOUR: 'it returns false'. Refute it at one input. -/
def lawS2997CWaitAfterWrong : ChangeSpec := { name := "lawS2997CWaitAfter", fn := fun _ => fun
  | [d] => { results := [.lit (.bool false)], args := [d] }
  | _ => none }
def LawS2997CWaitAfterWrongFalsely : Prop := lawS2997CWaitAfterRow.holds Yba.pinned (OpenSpec.ofChange lawS2997CWaitAfterWrong)

end Rows
end Go.Proofs.Ybulkbjau
