/-
  No cell of these rows narrows 'for every input' (looked for: loops, veiled, ifaces, maps, wideKeys, modest, calm, conditions, laid).
  DERIVED. THE GIVEN ROWS OF THIS SEAT. 1 by the template 'for every input the law returns true; each argument reads behind the call as it read before'; 0 by the template 'total and deterministic' (their statements: YbulkhdngFmtTotals.lean).
  GIVEN WITH THE SEED: the statements are not yours to turn. If you find one false, say at which input.
  Laid BY PROGRAM, IN A SANDBOX (cutbox-rows.mjs): the forced cells as the released guide's own fill.sh prints them over the translation 2bdafd69086348bf… (all of the seat's roots in one cut). By AI agents, Wed Nov 11 2026. No macro, syntax, notation, axiom, sorry.
-/
import Derived.Test.YbulkhdngFmtChecked
import GoSem.Claim
import GoSem.ClaimJoined
import GoSem.ClaimMapViews
import Derived.JoinedTies
import Derived.KernelRfl
namespace Go.Proofs.YbulkhdngFmt
/- THE CELL 'sum', in the pinned program and in every row, IS THE sha256 OF THE DUMP (.gsa) THAT YbulkhdngFmtProg.lean LOADS. Nothing in Lean hashes anything: it is a label: what it is worth is what the hold of that sum in a sandbox is worth. -/
noncomputable def Ybaf.pinned : Pinned := { name := "ybulkhdngfmt", sum := "2bdafd69086348bfb7419ca198ad1ead753080c631eada4f461740323f382221", checked := Ybaf.checked }
namespace Rows
def none {H : Type} : Left H := { results := [], args := [] }

/-- 'airquorum.LawS10263CWhole': WHATEVER THE INPUT: true; the input reads as it did. -/
def lawS10263CWholeSpec : ChangeSpec := { name := "lawS10263CWhole", fn := fun _ => fun
  | [d1, d2, d3, d4, d5, d6, d7, d8, d9, d10] => { results := [.lit (.bool true)], args := [d1, d2, d3, d4, d5, d6, d7, d8, d9, d10] }
  | _ => none }
def lawS10263CWholeRow : OpenClaim := { program := "ybulkhdngfmt", sum := "2bdafd69086348bfb7419ca198ad1ead753080c631eada4f461740323f382221", func := "example.com/airquorum/airquorum.LawS10263CWhole", spec := "lawS10263CWhole", stops := ["fmt.errorf"], inPlace := ["fmt.errorf"], apart := false }
/-- NO THEOREM (fmt's text is open here; it may be false): for the released tool's asking of the row's closed facts alone. THE STATEMENT IS 'LawS10263CWholeToldSaid' (YbulkhdngFmtCards.lean). -/
def LawS10263CWholeFormAsk : Prop := lawS10263CWholeRow.holds Ybaf.pinned (OpenSpec.ofChange lawS10263CWholeSpec)

/-- ITS FALSE NEIGHBOUR: 'it returns false'. Refute it at one input. -/
def lawS10263CWholeWrong : ChangeSpec := { name := "lawS10263CWhole", fn := fun _ => fun
  | [d1, d2, d3, d4, d5, d6, d7, d8, d9, d10] => { results := [.lit (.bool false)], args := [d1, d2, d3, d4, d5, d6, d7, d8, d9, d10] }
  | _ => none }
def LawS10263CWholeWrongFormAsk : Prop := lawS10263CWholeRow.holds Ybaf.pinned (OpenSpec.ofChange lawS10263CWholeWrong)

end Rows
end Go.Proofs.YbulkhdngFmt
