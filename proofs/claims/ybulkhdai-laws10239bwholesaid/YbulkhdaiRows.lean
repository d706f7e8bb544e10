/-
  No cell of these rows narrows 'for every input' (looked for: loops, veiled, ifaces, maps, wideKeys, modest, calm, conditions, laid).
  DERIVED. THE GIVEN ROWS OF THIS SEAT. 1 by the template 'for every input the law returns true; each argument reads behind the call as it read before'; 0 by the template 'total and deterministic' (their statements: YbulkhdaiTotals.lean).
  GIVEN WITH THE SEED: the statements are not yours to turn. If you find one false, say at which input.
  Laid BY PROGRAM, IN A SANDBOX (cutbox-rows.mjs): the forced cells as the released guide's own fill.sh prints them over the translation 698f3764a84c85ee… (all of the seat's roots in one cut). By AI agents, Wed Nov 11 2026. No macro, syntax, notation, axiom, sorry.
-/
import Derived.Test.YbulkhdaiChecked
import GoSem.Claim
import GoSem.ClaimJoined
import GoSem.ClaimMapViews
import Derived.JoinedTies
import Derived.KernelRfl
namespace Go.Proofs.Ybulkhdai
/- THE CELL 'sum', in the pinned program and in every row, IS THE sha256 OF THE DUMP (.gsa) THAT YbulkhdaiProg.lean LOADS. Nothing in Lean hashes anything: it is a label: what it is worth is what the hold of that sum in a sandbox is worth. -/
noncomputable def Yba.pinned : Pinned := { name := "ybulkhdai", sum := "698f3764a84c85ee14439179202c402df8241074f1178ab0579a2705b3c1d6e2", checked := Yba.checked }
namespace Rows
def none {H : Type} : Left H := { results := [], args := [] }

/-- 'harnesstest.LawS10239BWhole': WHATEVER THE INPUT: true; the input reads as it did. -/
def lawS10239BWholeSpec : ChangeSpec := { name := "lawS10239BWhole", fn := fun _ => fun
  | [d] => { results := [.lit (.bool true)], args := [d] }
  | _ => none }
def lawS10239BWholeRow : OpenClaim := { program := "ybulkhdai", sum := "698f3764a84c85ee14439179202c402df8241074f1178ab0579a2705b3c1d6e2", func := "example.com/small-harness/small-harness/harnesstest.LawS10239BWhole", spec := "lawS10239BWhole", inPlace := ["(*internal/sync.Mutex).TryLock", "internal/race.Disable", "internal/race.Enable", "sync/atomic.CompareAndSwapInt32", "internal/race.Acquire", "(*internal/sync.Mutex).Unlock", "internal/race.ReleaseMerge", "sync/atomic.AddInt32", "(*internal/sync.Mutex).unlockSlow", "internal/sync.fatal", "internal/sync.runtime_Semrelease"], unfollowed := true, recurses := true, apart := false }
def LawS10239BWholeSaid : Prop := lawS10239BWholeRow.holds Yba.pinned (OpenSpec.ofChange lawS10239BWholeSpec)

/-- ITS FALSE NEIGHBOUR: 'it returns false'. Refute it at one input. -/
def lawS10239BWholeWrong : ChangeSpec := { name := "lawS10239BWhole", fn := fun _ => fun
  | [d] => { results := [.lit (.bool false)], args := [d] }
  | _ => none }
def LawS10239BWholeWrongFalsely : Prop := lawS10239BWholeRow.holds Yba.pinned (OpenSpec.ofChange lawS10239BWholeWrong)

end Rows
end Go.Proofs.Ybulkhdai
