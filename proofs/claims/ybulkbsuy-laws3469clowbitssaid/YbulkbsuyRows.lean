/-
  No cell of these rows narrows 'for every input' (looked for: loops, veiled, ifaces, maps, wideKeys, modest, calm, conditions, laid).
  DERIVED. THE GIVEN ROWS OF THIS SEAT. 4 by the template 'for every input the law returns true; each argument reads behind the call as it read before'; 0 by the template 'total and deterministic' (their statements: YbulkbsuyTotals.lean).
  GIVEN WITH THE SEED: the statements are not yours to turn. If you find one false, say at which input.
  Laid BY PROGRAM, IN A SANDBOX (cutbox-rows.mjs): the forced cells as the released guide's own fill.sh prints them over the translation 646d452b8f82dda1… (all of the seat's roots in one cut). By AI agents, Wed Nov 11 2026. No macro, syntax, notation, axiom, sorry.
-/
import Derived.Test.YbulkbsuyChecked
import GoSem.Claim
import GoSem.ClaimJoined
import GoSem.ClaimMapViews
import Derived.JoinedTies
import Derived.KernelRfl
namespace Go.Proofs.Ybulkbsuy
/- THE CELL 'sum', in the pinned program and in every row, IS THE sha256 OF THE DUMP (.gsa) THAT YbulkbsuyProg.lean LOADS. Nothing in Lean hashes anything: it is a label: what it is worth is what the hold of that sum in a sandbox is worth. -/
noncomputable def Yba.pinned : Pinned := { name := "ybulkbsuy", sum := "646d452b8f82dda1b7e89a5dd5dc8b04be4c707179492df878052bddea7fd87a", checked := Yba.checked }
namespace Rows
def none {H : Type} : Left H := { results := [], args := [] }

/-- 'latchwork.LawS3469AFresh': WHATEVER THE INPUT: true; the input reads as it did. -/
def lawS3469AFreshSpec : ChangeSpec := { name := "lawS3469AFresh", fn := fun _ => fun
  | [d] => { results := [.lit (.bool true)], args := [d] }
  | _ => none }
def lawS3469AFreshRow : OpenClaim := { program := "ybulkbsuy", sum := "646d452b8f82dda1b7e89a5dd5dc8b04be4c707179492df878052bddea7fd87a", func := "example.com/latchwork/latchwork.LawS3469AFresh", spec := "lawS3469AFresh", inPlace := ["sync/atomic.StoreInt64", "sync/atomic.LoadInt64"], apart := false }
def LawS3469AFreshSaid : Prop := lawS3469AFreshRow.holds Yba.pinned (OpenSpec.ofChange lawS3469AFreshSpec)

/-- ITS FALSE NEIGHBOUR: 'it returns false'. Refute it at one input. -/
def lawS3469AFreshWrong : ChangeSpec := { name := "lawS3469AFresh", fn := fun _ => fun
  | [d] => { results := [.lit (.bool false)], args := [d] }
  | _ => none }
def LawS3469AFreshWrongFalsely : Prop := lawS3469AFreshRow.holds Yba.pinned (OpenSpec.ofChange lawS3469AFreshWrong)

/-- 'latchwork.LawS3469ADistinct': WHATEVER THE INPUT: true; the input reads as it did. -/
def lawS3469ADistinctSpec : ChangeSpec := { name := "lawS3469ADistinct", fn := fun _ => fun
  | [d] => { results := [.lit (.bool true)], args := [d] }
  | _ => none }
def lawS3469ADistinctRow : OpenClaim := { program := "ybulkbsuy", sum := "646d452b8f82dda1b7e89a5dd5dc8b04be4c707179492df878052bddea7fd87a", func := "example.com/latchwork/latchwork.LawS3469ADistinct", spec := "lawS3469ADistinct", inPlace := ["sync/atomic.StoreInt64", "sync/atomic.LoadInt64"], apart := false }
def LawS3469ADistinctSaid : Prop := lawS3469ADistinctRow.holds Yba.pinned (OpenSpec.ofChange lawS3469ADistinctSpec)

/-- ITS FALSE NEIGHBOUR: 'it returns false'. Refute it at one input. -/
def lawS3469ADistinctWrong : ChangeSpec := { name := "lawS3469ADistinct", fn := fun _ => fun
  | [d] => { results := [.lit (.bool false)], args := [d] }
  | _ => none }
def LawS3469ADistinctWrongFalsely : Prop := lawS3469ADistinctRow.holds Yba.pinned (OpenSpec.ofChange lawS3469ADistinctWrong)

/-- 'latchwork.LawS3469CState': WHATEVER THE INPUT: true; the input reads as it did. -/
def lawS3469CStateSpec : ChangeSpec := { name := "lawS3469CState", fn := fun _ => fun
  | [d1, d2] => { results := [.lit (.bool true)], args := [d1, d2] }
  | _ => none }
def lawS3469CStateRow : OpenClaim := { program := "ybulkbsuy", sum := "646d452b8f82dda1b7e89a5dd5dc8b04be4c707179492df878052bddea7fd87a", func := "example.com/latchwork/latchwork.LawS3469CState", spec := "lawS3469CState", inPlace := ["sync/atomic.StoreInt64", "(*internal/sync.Mutex).Lock", "internal/race.Disable", "sync/atomic.CompareAndSwapInt32", "internal/race.Enable", "internal/race.Acquire", "(*internal/sync.Mutex).lockSlow", "internal/sync.runtime_canSpin", "internal/sync.runtime_doSpin", "internal/sync.throw", "internal/sync.runtime_nanotime", "internal/sync.runtime_SemacquireMutex", "sync/atomic.AddInt32", "sync/atomic.LoadInt32", "sync/atomic.LoadInt64", "sync/atomic.CompareAndSwapInt64", "sync/atomic.SwapUint32", "(*internal/sync.Mutex).Unlock", "internal/race.ReleaseMerge", "(*internal/sync.Mutex).unlockSlow", "internal/sync.fatal", "internal/sync.runtime_Semrelease"], apart := false }
def LawS3469CStateSaid : Prop := lawS3469CStateRow.holds Yba.pinned (OpenSpec.ofChange lawS3469CStateSpec)

/-- ITS FALSE NEIGHBOUR: 'it returns false'. Refute it at one input. -/
def lawS3469CStateWrong : ChangeSpec := { name := "lawS3469CState", fn := fun _ => fun
  | [d1, d2] => { results := [.lit (.bool false)], args := [d1, d2] }
  | _ => none }
def LawS3469CStateWrongFalsely : Prop := lawS3469CStateRow.holds Yba.pinned (OpenSpec.ofChange lawS3469CStateWrong)

/-- 'latchwork.LawS3469CLowBits': WHATEVER THE INPUT: true; the input reads as it did. -/
def lawS3469CLowBitsSpec : ChangeSpec := { name := "lawS3469CLowBits", fn := fun _ => fun
  | [d1, d2] => { results := [.lit (.bool true)], args := [d1, d2] }
  | _ => none }
def lawS3469CLowBitsRow : OpenClaim := { program := "ybulkbsuy", sum := "646d452b8f82dda1b7e89a5dd5dc8b04be4c707179492df878052bddea7fd87a", func := "example.com/latchwork/latchwork.LawS3469CLowBits", spec := "lawS3469CLowBits", inPlace := ["sync/atomic.StoreInt64", "(*internal/sync.Mutex).Lock", "internal/race.Disable", "sync/atomic.CompareAndSwapInt32", "internal/race.Enable", "internal/race.Acquire", "(*internal/sync.Mutex).lockSlow", "internal/sync.runtime_canSpin", "internal/sync.runtime_doSpin", "internal/sync.throw", "internal/sync.runtime_nanotime", "internal/sync.runtime_SemacquireMutex", "sync/atomic.AddInt32", "sync/atomic.LoadInt32", "sync/atomic.LoadInt64", "sync/atomic.CompareAndSwapInt64", "sync/atomic.SwapUint32", "(*internal/sync.Mutex).Unlock", "internal/race.ReleaseMerge", "(*internal/sync.Mutex).unlockSlow", "internal/sync.fatal", "internal/sync.runtime_Semrelease"], apart := false }
def LawS3469CLowBitsSaid : Prop := lawS3469CLowBitsRow.holds Yba.pinned (OpenSpec.ofChange lawS3469CLowBitsSpec)

/-- ITS FALSE NEIGHBOUR: 'it returns false'. Refute it at one input. -/
def lawS3469CLowBitsWrong : ChangeSpec := { name := "lawS3469CLowBits", fn := fun _ => fun
  | [d1, d2] => { results := [.lit (.bool false)], args := [d1, d2] }
  | _ => none }
def LawS3469CLowBitsWrongFalsely : Prop := lawS3469CLowBitsRow.holds Yba.pinned (OpenSpec.ofChange lawS3469CLowBitsWrong)

end Rows
end Go.Proofs.Ybulkbsuy
