/-
  DERIVED. GIVEN WITH THE SEED: THE CARDS: each row of YbulkbnqwFmtRows.lean that lists a variable, with what it lists TIED to the program's text (the seventh form; the later family's looks); each row that meets fmt, with fmt's text TOLD by the authors' own Lean function (tested against real Go, not proved from fmt's source: count such statements apart). THE CARD IS WHAT COUNTS. Prove the row's statement (the work); the ties are given (YbulkbnqwFmtTie.lean); close each card by the builder's one call (the guide's Derived/Test/ToyasCard.lean, 'card_holds'). Laid BY PROGRAM, IN A SANDBOX (cutbox-door.mjs). By AI agents, Wed Nov 11 2026. No macro, syntax, notation, axiom, sorry.
-/
import Derived.Test.YbulkbnqwFmtRows
import GoSem.ClaimSeven
namespace Go.Proofs.YbulkbnqwFmt
namespace Rows

/-- THE TOLD CARD OF 'cliffline.LawS3220ANamed'. -/
def lawS3220ANamedCard : Claim7 := { stood := { row := lawS3220ANamedRow, standIns := [], harness := (true, "ff9e433b546d8e2ca97a580f4183d44a19a058b0bbcbe76ae9c8f83e951ca014"), looks := false }, told := true, goes := false }
def LawS3220ANamedToldSaid : Prop := Claim7.holds Ybaf.pinned (.plain (OpenSpec.ofChange lawS3220ANamedSpec)) lawS3220ANamedCard
/-- ITS FALSE NEIGHBOUR. Refute it at one input. -/
def LawS3220ANamedToldWrongFalsely : Prop := Claim7.holds Ybaf.pinned (.plain (OpenSpec.ofChange lawS3220ANamedWrong)) lawS3220ANamedCard

/-- THE TOLD CARD OF 'cliffline.LawS3220AOther'. -/
def lawS3220AOtherCard : Claim7 := { stood := { row := lawS3220AOtherRow, standIns := [], harness := (true, "ff9e433b546d8e2ca97a580f4183d44a19a058b0bbcbe76ae9c8f83e951ca014"), looks := false }, told := true, goes := false }
def LawS3220AOtherToldSaid : Prop := Claim7.holds Ybaf.pinned (.plain (OpenSpec.ofChange lawS3220AOtherSpec)) lawS3220AOtherCard
/-- ITS FALSE NEIGHBOUR. Refute it at one input. -/
def LawS3220AOtherToldWrongFalsely : Prop := Claim7.holds Ybaf.pinned (.plain (OpenSpec.ofChange lawS3220AOtherWrong)) lawS3220AOtherCard
end Rows
end Go.Proofs.YbulkbnqwFmt
