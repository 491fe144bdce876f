/-
  No cell of these rows narrows 'for every input' (looked for: loops, veiled, ifaces, maps, wideKeys, modest, calm, conditions, laid).
  DERIVED. THE GIVEN ROWS OF THIS SEAT. 3 by the template 'for every input the law returns true; each argument reads behind the call as it read before'; 0 by the template 'total and deterministic' (their statements: YbulkdfimTotals.lean).
  GIVEN WITH THE SEED: the statements are not yours to turn. If you find one false, say at which input.
  Laid BY PROGRAM, IN A SANDBOX (cutbox-rows.mjs): the forced cells as the released guide's own fill.sh prints them over the translation c4f8a561b7821e20… (all of the seat's roots in one cut). By AI agents, Wed Nov 11 2026. No macro, syntax, notation, axiom, sorry.
-/
import Derived.Test.YbulkdfimChecked
import GoSem.Claim
import GoSem.ClaimJoined
import GoSem.ClaimMapViews
import Derived.JoinedTies
import Derived.KernelRfl
namespace Go.Proofs.Ybulkdfim
/- THE CELL 'sum', in the pinned program and in every row, IS THE sha256 OF THE DUMP (.gsa) THAT YbulkdfimProg.lean LOADS. Nothing in Lean hashes anything: it is a label: what it is worth is what the hold of that sum in a sandbox is worth. -/
noncomputable def Yba.pinned : Pinned := { name := "ybulkdfim", sum := "c4f8a561b7821e20b3016f32ffd46d469ed61d83946f72a37b36f1768366cfbe", checked := Yba.checked }
namespace Rows
def none {H : Type} : Left H := { results := [], args := [] }

/-- 'latchwork.LawS5329AHandOff': WHATEVER THE INPUT: true; the input reads as it did. -/
def lawS5329AHandOffSpec : ChangeSpec := { name := "lawS5329AHandOff", fn := fun _ => fun
  | [d1, d2, d3] => { results := [.lit (.bool true)], args := [d1, d2, d3] }
  | _ => none }
def lawS5329AHandOffRow : OpenClaim := { program := "ybulkdfim", sum := "c4f8a561b7821e20b3016f32ffd46d469ed61d83946f72a37b36f1768366cfbe", func := "example.com/latchwork/latchwork.LawS5329AHandOff", spec := "lawS5329AHandOff", inPlace := ["sync/atomic.StoreUint32", "sync/atomic.StoreInt64", "(*internal/sync.Mutex).Lock", "internal/race.Disable", "sync/atomic.CompareAndSwapInt32", "internal/race.Enable", "internal/race.Acquire", "(*internal/sync.Mutex).lockSlow", "internal/sync.runtime_canSpin", "internal/sync.runtime_doSpin", "internal/sync.throw", "internal/sync.runtime_nanotime", "internal/sync.runtime_SemacquireMutex", "sync/atomic.AddInt32", "(*internal/sync.Mutex).Unlock", "internal/race.ReleaseMerge", "(*internal/sync.Mutex).unlockSlow", "internal/sync.fatal", "internal/sync.runtime_Semrelease", "sync/atomic.AddUint32", "(*internal/sync.Mutex).TryLock", "sync/atomic.LoadInt64", "sync/atomic.LoadUint32"], apart := false }
def LawS5329AHandOffSaid : Prop := lawS5329AHandOffRow.holds Yba.pinned (OpenSpec.ofChange lawS5329AHandOffSpec)

/-- ITS FALSE NEIGHBOUR: 'it returns false'. Refute it at one input. -/
def lawS5329AHandOffWrong : ChangeSpec := { name := "lawS5329AHandOff", fn := fun _ => fun
  | [d1, d2, d3] => { results := [.lit (.bool false)], args := [d1, d2, d3] }
  | _ => none }
def LawS5329AHandOffWrongFalsely : Prop := lawS5329AHandOffRow.holds Yba.pinned (OpenSpec.ofChange lawS5329AHandOffWrong)

/-- 'latchwork.LawS5329ADrain': WHATEVER THE INPUT: true; the input reads as it did. -/
def lawS5329ADrainSpec : ChangeSpec := { name := "lawS5329ADrain", fn := fun _ => fun
  | [d1, d2, d3] => { results := [.lit (.bool true)], args := [d1, d2, d3] }
  | _ => none }
def lawS5329ADrainRow : OpenClaim := { program := "ybulkdfim", sum := "c4f8a561b7821e20b3016f32ffd46d469ed61d83946f72a37b36f1768366cfbe", func := "example.com/latchwork/latchwork.LawS5329ADrain", spec := "lawS5329ADrain", inPlace := ["sync/atomic.StoreUint32", "sync/atomic.StoreInt64", "(*internal/sync.Mutex).Lock", "internal/race.Disable", "sync/atomic.CompareAndSwapInt32", "internal/race.Enable", "internal/race.Acquire", "(*internal/sync.Mutex).lockSlow", "internal/sync.runtime_canSpin", "internal/sync.runtime_doSpin", "internal/sync.throw", "internal/sync.runtime_nanotime", "internal/sync.runtime_SemacquireMutex", "sync/atomic.AddInt32", "(*internal/sync.Mutex).Unlock", "internal/race.ReleaseMerge", "(*internal/sync.Mutex).unlockSlow", "internal/sync.fatal", "internal/sync.runtime_Semrelease", "sync/atomic.AddUint32", "sync/atomic.LoadUint32"], apart := false }
def LawS5329ADrainSaid : Prop := lawS5329ADrainRow.holds Yba.pinned (OpenSpec.ofChange lawS5329ADrainSpec)

/-- ITS FALSE NEIGHBOUR: 'it returns false'. Refute it at one input. -/
def lawS5329ADrainWrong : ChangeSpec := { name := "lawS5329ADrain", fn := fun _ => fun
  | [d1, d2, d3] => { results := [.lit (.bool false)], args := [d1, d2, d3] }
  | _ => none }
def LawS5329ADrainWrongFalsely : Prop := lawS5329ADrainRow.holds Yba.pinned (OpenSpec.ofChange lawS5329ADrainWrong)

/-- 'latchwork.LawS5329BTryGo': WHATEVER THE INPUT: true; the input reads as it did. -/
def lawS5329BTryGoSpec : ChangeSpec := { name := "lawS5329BTryGo", fn := fun _ => fun
  | [d1, d2, d3, d4] => { results := [.lit (.bool true)], args := [d1, d2, d3, d4] }
  | _ => none }
def lawS5329BTryGoRow : OpenClaim := { program := "ybulkdfim", sum := "c4f8a561b7821e20b3016f32ffd46d469ed61d83946f72a37b36f1768366cfbe", func := "example.com/latchwork/latchwork.LawS5329BTryGo", spec := "lawS5329BTryGo", inPlace := ["(*internal/sync.Mutex).Lock", "internal/race.Disable", "sync/atomic.CompareAndSwapInt32", "internal/race.Enable", "internal/race.Acquire", "(*internal/sync.Mutex).lockSlow", "internal/sync.runtime_canSpin", "internal/sync.runtime_doSpin", "internal/sync.throw", "internal/sync.runtime_nanotime", "internal/sync.runtime_SemacquireMutex", "sync/atomic.AddInt32", "(*internal/sync.Mutex).Unlock", "internal/race.ReleaseMerge", "(*internal/sync.Mutex).unlockSlow", "internal/sync.fatal", "internal/sync.runtime_Semrelease", "sync/atomic.LoadUint32", "sync/atomic.CompareAndSwapUint32", "sync/atomic.StoreUint32", "sync/atomic.LoadInt64", "sync/atomic.StoreInt64", "sync/atomic.AddInt64", "sync/atomic.CompareAndSwapInt64"], unfollowed := true, recurses := true, apart := false }
def LawS5329BTryGoSaid : Prop := lawS5329BTryGoRow.holds Yba.pinned (OpenSpec.ofChange lawS5329BTryGoSpec)

/-- ITS FALSE NEIGHBOUR: 'it returns false'. Refute it at one input. -/
def lawS5329BTryGoWrong : ChangeSpec := { name := "lawS5329BTryGo", fn := fun _ => fun
  | [d1, d2, d3, d4] => { results := [.lit (.bool false)], args := [d1, d2, d3, d4] }
  | _ => none }
def LawS5329BTryGoWrongFalsely : Prop := lawS5329BTryGoRow.holds Yba.pinned (OpenSpec.ofChange lawS5329BTryGoWrong)

end Rows
end Go.Proofs.Ybulkdfim
