/-
  DERIVED. GIVEN WITH THE SEED: THE CARDS: each row of YbulkhdngFmtRows.lean that lists a variable, with what it lists TIED to the program's text (the seventh form; the later family's looks); each row that meets fmt, with fmt's text TOLD by the authors' own Lean function (tested against real Go, not proved from fmt's source: count such statements apart). THE CARD IS WHAT COUNTS. Prove the row's statement (the work); the ties are given (YbulkhdngFmtTie.lean); close each card by the builder's one call (the guide's Derived/Test/ToyasCard.lean, 'card_holds'). Laid BY PROGRAM, IN A SANDBOX (cutbox-door.mjs). By AI agents, Wed Nov 11 2026. No macro, syntax, notation, axiom, sorry.
-/
import Derived.Test.YbulkhdngFmtRows
import GoSem.ClaimSeven
namespace Go.Proofs.YbulkhdngFmt
namespace Rows

/-- THE TOLD CARD OF 'airquorum.LawS10263CWhole'. -/
def lawS10263CWholeCard : Claim7 := { stood := { row := lawS10263CWholeRow, standIns := [], harness := (true, "99974c72a16feb07821cf12824ab23aa154f6e971dd937849e4ee3038b9b5c64"), looks := false }, told := true, goes := false }
def LawS10263CWholeToldSaid : Prop := Claim7.holds Ybaf.pinned (.plain (OpenSpec.ofChange lawS10263CWholeSpec)) lawS10263CWholeCard
/-- ITS FALSE NEIGHBOUR. Refute it at one input. -/
def LawS10263CWholeToldWrongFalsely : Prop := Claim7.holds Ybaf.pinned (.plain (OpenSpec.ofChange lawS10263CWholeWrong)) lawS10263CWholeCard
end Rows
end Go.Proofs.YbulkhdngFmt
