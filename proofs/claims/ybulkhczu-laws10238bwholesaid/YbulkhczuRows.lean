/-
  No cell of these rows narrows 'for every input' (looked for: loops, veiled, ifaces, maps, wideKeys, modest, calm, conditions, laid).
  DERIVED. THE GIVEN ROWS OF THIS SEAT. 2 by the template 'for every input the law returns true; each argument reads behind the call as it read before'; 0 by the template 'total and deterministic' (their statements: YbulkhczuTotals.lean).
  GIVEN WITH THE SEED: the statements are not yours to turn. If you find one false, say at which input.
  Laid BY PROGRAM, IN A SANDBOX (cutbox-rows.mjs): the forced cells as the released guide's own fill.sh prints them over the translation 5d968c04c17ae445… (all of the seat's roots in one cut). By AI agents, Wed Nov 11 2026. No macro, syntax, notation, axiom, sorry.
-/
import Derived.Test.YbulkhczuChecked
import GoSem.Claim
import GoSem.ClaimJoined
import GoSem.ClaimMapViews
import Derived.JoinedTies
import Derived.KernelRfl
namespace Go.Proofs.Ybulkhczu
/- THE CELL 'sum', in the pinned program and in every row, IS THE sha256 OF THE DUMP (.gsa) THAT YbulkhczuProg.lean LOADS. Nothing in Lean hashes anything: it is a label: what it is worth is what the hold of that sum in a sandbox is worth. -/
noncomputable def Yba.pinned : Pinned := { name := "ybulkhczu", sum := "5d968c04c17ae445634e44fa5096cb64ee8e4ab4c8a45b512e0e2b850702c0e1", checked := Yba.checked }
namespace Rows
def none {H : Type} : Left H := { results := [], args := [] }

/-- 'flockwire.LawS10238AWhole': WHATEVER THE INPUT: true; the input reads as it did. -/
def lawS10238AWholeSpec : ChangeSpec := { name := "lawS10238AWhole", fn := fun _ => fun
  | [d1, d2, d3, d4, d5, d6] => { results := [.lit (.bool true)], args := [d1, d2, d3, d4, d5, d6] }
  | _ => none }
def lawS10238AWholeRow : OpenClaim := { program := "ybulkhczu", sum := "5d968c04c17ae445634e44fa5096cb64ee8e4ab4c8a45b512e0e2b850702c0e1", func := "example.com/flockwire/flockwire.LawS10238AWhole", spec := "lawS10238AWhole", inPlace := ["(*internal/sync.Mutex).Lock", "internal/race.Disable", "sync/atomic.CompareAndSwapInt32", "internal/race.Enable", "internal/race.Acquire", "(*internal/sync.Mutex).lockSlow", "internal/sync.runtime_canSpin", "internal/sync.runtime_doSpin", "internal/sync.throw", "internal/sync.runtime_nanotime", "internal/sync.runtime_SemacquireMutex", "sync/atomic.AddInt32", "(*internal/sync.Mutex).Unlock", "internal/race.ReleaseMerge", "(*internal/sync.Mutex).unlockSlow", "internal/sync.fatal", "internal/sync.runtime_Semrelease", "(*internal/sync.Mutex).TryLock"], plainKeys := false, apart := false }
def LawS10238AWholeSaid : Prop := lawS10238AWholeRow.holds Yba.pinned (OpenSpec.ofChange lawS10238AWholeSpec)

/-- ITS FALSE NEIGHBOUR: 'it returns false'. Refute it at one input. -/
def lawS10238AWholeWrong : ChangeSpec := { name := "lawS10238AWhole", fn := fun _ => fun
  | [d1, d2, d3, d4, d5, d6] => { results := [.lit (.bool false)], args := [d1, d2, d3, d4, d5, d6] }
  | _ => none }
def LawS10238AWholeWrongFalsely : Prop := lawS10238AWholeRow.holds Yba.pinned (OpenSpec.ofChange lawS10238AWholeWrong)

/-- 'flockwire.LawS10238BWhole': WHATEVER THE INPUT: true; the input reads as it did. -/
def lawS10238BWholeSpec : ChangeSpec := { name := "lawS10238BWhole", fn := fun _ => fun
  | [d1, d2, d3, d4] => { results := [.lit (.bool true)], args := [d1, d2, d3, d4] }
  | _ => none }
def lawS10238BWholeRow : OpenClaim := { program := "ybulkhczu", sum := "5d968c04c17ae445634e44fa5096cb64ee8e4ab4c8a45b512e0e2b850702c0e1", func := "example.com/flockwire/flockwire.LawS10238BWhole", spec := "lawS10238BWhole", inPlace := ["(*internal/sync.Mutex).Lock", "internal/race.Disable", "sync/atomic.CompareAndSwapInt32", "internal/race.Enable", "internal/race.Acquire", "(*internal/sync.Mutex).lockSlow", "internal/sync.runtime_canSpin", "internal/sync.runtime_doSpin", "internal/sync.throw", "internal/sync.runtime_nanotime", "internal/sync.runtime_SemacquireMutex", "sync/atomic.AddInt32", "(*internal/sync.Mutex).Unlock", "internal/race.ReleaseMerge", "(*internal/sync.Mutex).unlockSlow", "internal/sync.fatal", "internal/sync.runtime_Semrelease", "(*internal/sync.Mutex).TryLock"], plainKeys := false, apart := false }
def LawS10238BWholeSaid : Prop := lawS10238BWholeRow.holds Yba.pinned (OpenSpec.ofChange lawS10238BWholeSpec)

/-- ITS FALSE NEIGHBOUR: 'it returns false'. Refute it at one input. -/
def lawS10238BWholeWrong : ChangeSpec := { name := "lawS10238BWhole", fn := fun _ => fun
  | [d1, d2, d3, d4] => { results := [.lit (.bool false)], args := [d1, d2, d3, d4] }
  | _ => none }
def LawS10238BWholeWrongFalsely : Prop := lawS10238BWholeRow.holds Yba.pinned (OpenSpec.ofChange lawS10238BWholeWrong)

end Rows
end Go.Proofs.Ybulkhczu
