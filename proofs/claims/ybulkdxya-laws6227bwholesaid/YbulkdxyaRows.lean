/-
  No cell of these rows narrows 'for every input' (looked for: loops, veiled, ifaces, maps, wideKeys, modest, calm, conditions, laid).
  DERIVED. THE GIVEN ROWS OF THIS SEAT. 1 by the template 'for every input the law returns true; each argument reads behind the call as it read before'; 0 by the template 'total and deterministic' (their statements: YbulkdxyaTotals.lean).
  GIVEN WITH THE SEED: the statements are not yours to turn. If you find one false, say at which input.
  Laid BY PROGRAM, IN A SANDBOX (cutbox-rows.mjs): the forced cells as the released guide's own fill.sh prints them over the translation 2198cde42e7cf3a2… (all of the seat's roots in one cut). By AI agents, Wed Nov 11 2026. No macro, syntax, notation, axiom, sorry.
-/
import Derived.Test.YbulkdxyaChecked
import GoSem.Claim
import GoSem.ClaimJoined
import GoSem.ClaimMapViews
import Derived.JoinedTies
import Derived.KernelRfl
namespace Go.Proofs.Ybulkdxya
/- THE CELL 'sum', in the pinned program and in every row, IS THE sha256 OF THE DUMP (.gsa) THAT YbulkdxyaProg.lean LOADS. Nothing in Lean hashes anything: it is a label: what it is worth is what the hold of that sum in a sandbox is worth. -/
noncomputable def Yba.pinned : Pinned := { name := "ybulkdxya", sum := "2198cde42e7cf3a29cfc4891ab976c7fb0b132d8a63858e587a80300e67a6e63", checked := Yba.checked }
namespace Rows
def none {H : Type} : Left H := { results := [], args := [] }

/-- 'ringkeeper.LawS6227BWhole': WHATEVER THE INPUT: true; the input reads as it did. -/
def lawS6227BWholeSpec : ChangeSpec := { name := "lawS6227BWhole", fn := fun _ => fun
  | [d1, d2, d3, d4, d5] => { results := [.lit (.bool true)], args := [d1, d2, d3, d4, d5] }
  | _ => none }
def lawS6227BWholeRow : OpenClaim := { program := "ybulkdxya", sum := "2198cde42e7cf3a29cfc4891ab976c7fb0b132d8a63858e587a80300e67a6e63", func := "example.com/ringkeeper/ringkeeper.LawS6227BWhole", spec := "lawS6227BWhole", inPlace := ["(*internal/sync.Mutex).Lock", "internal/race.Disable", "sync/atomic.CompareAndSwapInt32", "internal/race.Enable", "internal/race.Acquire", "(*internal/sync.Mutex).lockSlow", "internal/sync.runtime_canSpin", "internal/sync.runtime_doSpin", "internal/sync.throw", "internal/sync.runtime_nanotime", "internal/sync.runtime_SemacquireMutex", "sync/atomic.AddInt32", "(*internal/sync.Mutex).Unlock", "internal/race.ReleaseMerge", "(*internal/sync.Mutex).unlockSlow", "internal/sync.fatal", "internal/sync.runtime_Semrelease", "(*sync.WaitGroup).Wait", "sync/atomic.LoadUint64", "internal/synctest.IsAssociated[sync.WaitGroup]", "sync/atomic.CompareAndSwapUint64", "internal/synctest.Disassociate[sync.WaitGroup]", "internal/race.Write", "internal/synctest.IsInBubble", "sync.runtime_SemacquireWaitGroup", "(*internal/sync.Mutex).TryLock"], plainKeys := false, apart := false }
def LawS6227BWholeSaid : Prop := lawS6227BWholeRow.holds Yba.pinned (OpenSpec.ofChange lawS6227BWholeSpec)

/-- ITS FALSE NEIGHBOUR: 'it returns false'. Refute it at one input. -/
def lawS6227BWholeWrong : ChangeSpec := { name := "lawS6227BWhole", fn := fun _ => fun
  | [d1, d2, d3, d4, d5] => { results := [.lit (.bool false)], args := [d1, d2, d3, d4, d5] }
  | _ => none }
def LawS6227BWholeWrongFalsely : Prop := lawS6227BWholeRow.holds Yba.pinned (OpenSpec.ofChange lawS6227BWholeWrong)

end Rows
end Go.Proofs.Ybulkdxya
