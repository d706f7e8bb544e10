/-
  No cell of these rows narrows 'for every input' (looked for: loops, veiled, ifaces, maps, wideKeys, modest, calm, conditions, laid).
  DERIVED. THE GIVEN ROWS OF THIS SEAT. 1 by the template 'for every input the law returns true; each argument reads behind the call as it read before'; 0 by the template 'total and deterministic' (their statements: YbulkhdngTotals.lean).
  GIVEN WITH THE SEED: the statements are not yours to turn. If you find one false, say at which input.
  Laid BY PROGRAM, IN A SANDBOX (cutbox-rows.mjs): the forced cells as the released guide's own fill.sh prints them over the translation ac4e32d5bcd2cff3… (all of the seat's roots in one cut). By AI agents, Wed Nov 11 2026. No macro, syntax, notation, axiom, sorry.
-/
import Derived.Test.YbulkhdngChecked
import GoSem.Claim
import GoSem.ClaimJoined
import GoSem.ClaimMapViews
import Derived.JoinedTies
import Derived.KernelRfl
namespace Go.Proofs.Ybulkhdng
/- THE CELL 'sum', in the pinned program and in every row, IS THE sha256 OF THE DUMP (.gsa) THAT YbulkhdngProg.lean LOADS. Nothing in Lean hashes anything: it is a label: what it is worth is what the hold of that sum in a sandbox is worth. -/
noncomputable def Yba.pinned : Pinned := { name := "ybulkhdng", sum := "ac4e32d5bcd2cff3661df7fd34862712c1daf2b994ad3d1ca751be17dac20ffd", checked := Yba.checked }
namespace Rows
def none {H : Type} : Left H := { results := [], args := [] }

/-- 'airquorum.LawS10263AWhole': WHATEVER THE INPUT: true; the input reads as it did. -/
def lawS10263AWholeSpec : ChangeSpec := { name := "lawS10263AWhole", fn := fun _ => fun
  | [d1, d2, d3, d4, d5, d6, d7, d8, d9, d10, d11, d12] => { results := [.lit (.bool true)], args := [d1, d2, d3, d4, d5, d6, d7, d8, d9, d10, d11, d12] }
  | _ => none }
def lawS10263AWholeRow : OpenClaim := { program := "ybulkhdng", sum := "ac4e32d5bcd2cff3661df7fd34862712c1daf2b994ad3d1ca751be17dac20ffd", func := "example.com/airquorum/airquorum.LawS10263AWhole", spec := "lawS10263AWhole", apart := false }
def LawS10263AWholeSaid : Prop := lawS10263AWholeRow.holds Yba.pinned (OpenSpec.ofChange lawS10263AWholeSpec)

/-- ITS FALSE NEIGHBOUR: 'it returns false'. Refute it at one input. -/
def lawS10263AWholeWrong : ChangeSpec := { name := "lawS10263AWhole", fn := fun _ => fun
  | [d1, d2, d3, d4, d5, d6, d7, d8, d9, d10, d11, d12] => { results := [.lit (.bool false)], args := [d1, d2, d3, d4, d5, d6, d7, d8, d9, d10, d11, d12] }
  | _ => none }
def LawS10263AWholeWrongFalsely : Prop := lawS10263AWholeRow.holds Yba.pinned (OpenSpec.ofChange lawS10263AWholeWrong)

end Rows
end Go.Proofs.Ybulkhdng
