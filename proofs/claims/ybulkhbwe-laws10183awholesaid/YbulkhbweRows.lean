/-
  No cell of these rows narrows 'for every input' (looked for: loops, veiled, ifaces, maps, wideKeys, modest, calm, conditions, laid).
  DERIVED. THE GIVEN ROWS OF THIS SEAT. 1 by the template 'for every input the law returns true; each argument reads behind the call as it read before'; 0 by the template 'total and deterministic' (their statements: YbulkhbweTotals.lean).
  GIVEN WITH THE SEED: the statements are not yours to turn. If you find one false, say at which input.
  Laid BY PROGRAM, IN A SANDBOX (cutbox-rows.mjs): the forced cells as the released guide's own fill.sh prints them over the translation bc675bfd2581b652… (all of the seat's roots in one cut). By AI agents, Wed Nov 11 2026. No macro, syntax, notation, axiom, sorry.
-/
import Derived.Test.YbulkhbweChecked
import GoSem.Claim
import GoSem.ClaimJoined
import GoSem.ClaimMapViews
import Derived.JoinedTies
import Derived.KernelRfl
namespace Go.Proofs.Ybulkhbwe
/- THE CELL 'sum', in the pinned program and in every row, IS THE sha256 OF THE DUMP (.gsa) THAT YbulkhbweProg.lean LOADS. Nothing in Lean hashes anything: it is a label: what it is worth is what the hold of that sum in a sandbox is worth. -/
noncomputable def Yba.pinned : Pinned := { name := "ybulkhbwe", sum := "bc675bfd2581b6527fa2003f6f0711c84fa353c74b8eb5ac3e2053bdb6973fba", checked := Yba.checked }
namespace Rows
def none {H : Type} : Left H := { results := [], args := [] }

/-- 'spillway.LawS10183AWhole': WHATEVER THE INPUT: true; the input reads as it did. -/
def lawS10183AWholeSpec : ChangeSpec := { name := "lawS10183AWhole", fn := fun _ => fun
  | [d1, d2, d3] => { results := [.lit (.bool true)], args := [d1, d2, d3] }
  | _ => none }
def lawS10183AWholeRow : OpenClaim := { program := "ybulkhbwe", sum := "bc675bfd2581b6527fa2003f6f0711c84fa353c74b8eb5ac3e2053bdb6973fba", func := "example.com/spillway/spillway.LawS10183AWhole", spec := "lawS10183AWhole", apart := false }
def LawS10183AWholeSaid : Prop := lawS10183AWholeRow.holds Yba.pinned (OpenSpec.ofChange lawS10183AWholeSpec)

/-- ITS FALSE NEIGHBOUR: 'it returns false'. Refute it at one input. -/
def lawS10183AWholeWrong : ChangeSpec := { name := "lawS10183AWhole", fn := fun _ => fun
  | [d1, d2, d3] => { results := [.lit (.bool false)], args := [d1, d2, d3] }
  | _ => none }
def LawS10183AWholeWrongFalsely : Prop := lawS10183AWholeRow.holds Yba.pinned (OpenSpec.ofChange lawS10183AWholeWrong)

end Rows
end Go.Proofs.Ybulkhbwe
