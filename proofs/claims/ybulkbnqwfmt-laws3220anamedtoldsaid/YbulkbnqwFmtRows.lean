/-
  No cell of these rows narrows 'for every input' (looked for: loops, veiled, ifaces, maps, wideKeys, modest, calm, conditions, laid).
  DERIVED. THE GIVEN ROWS OF THIS SEAT. 2 by the template 'for every input the law returns true; each argument reads behind the call as it read before'; 0 by the template 'total and deterministic' (their statements: YbulkbnqwFmtTotals.lean).
  GIVEN WITH THE SEED: the statements are not yours to turn. If you find one false, say at which input.
  Laid BY PROGRAM, IN A SANDBOX (cutbox-rows.mjs): the forced cells as the released guide's own fill.sh prints them over the translation 1a5a768c878bf989… (all of the seat's roots in one cut). By AI agents, Wed Nov 11 2026. No macro, syntax, notation, axiom, sorry.
-/
import Derived.Test.YbulkbnqwFmtChecked
import GoSem.Claim
import GoSem.ClaimJoined
import GoSem.ClaimMapViews
import Derived.JoinedTies
import Derived.KernelRfl
namespace Go.Proofs.YbulkbnqwFmt
/- THE CELL 'sum', in the pinned program and in every row, IS THE sha256 OF THE DUMP (.gsa) THAT YbulkbnqwFmtProg.lean LOADS. Nothing in Lean hashes anything: it is a label: what it is worth is what the hold of that sum in a sandbox is worth. -/
noncomputable def Ybaf.pinned : Pinned := { name := "ybulkbnqwfmt", sum := "1a5a768c878bf98939d5a2915376fcd4fd1de3cd568652600785c965bfa1ef47", checked := Ybaf.checked }
namespace Rows
def none {H : Type} : Left H := { results := [], args := [] }

/-- 'cliffline.LawS3220ANamed': WHATEVER THE INPUT: true; the input reads as it did. -/
def lawS3220ANamedSpec : ChangeSpec := { name := "lawS3220ANamed", fn := fun _ => fun
  | [d] => { results := [.lit (.bool true)], args := [d] }
  | _ => none }
def lawS3220ANamedRow : OpenClaim := { program := "ybulkbnqwfmt", sum := "1a5a768c878bf98939d5a2915376fcd4fd1de3cd568652600785c965bfa1ef47", func := "example.com/cliffline/cliffline.LawS3220ANamed", spec := "lawS3220ANamed", stops := ["fmt.Sprintf"], inPlace := ["fmt.Sprintf"], apart := false }
/-- NO THEOREM (fmt's text is open here; it may be false): for the released tool's asking of the row's closed facts alone. THE STATEMENT IS 'LawS3220ANamedToldSaid' (YbulkbnqwFmtCards.lean). -/
def LawS3220ANamedFormAsk : Prop := lawS3220ANamedRow.holds Ybaf.pinned (OpenSpec.ofChange lawS3220ANamedSpec)

/-- ITS FALSE NEIGHBOUR: 'it returns false'. Refute it at one input. -/
def lawS3220ANamedWrong : ChangeSpec := { name := "lawS3220ANamed", fn := fun _ => fun
  | [d] => { results := [.lit (.bool false)], args := [d] }
  | _ => none }
def LawS3220ANamedWrongFormAsk : Prop := lawS3220ANamedRow.holds Ybaf.pinned (OpenSpec.ofChange lawS3220ANamedWrong)

/-- 'cliffline.LawS3220AOther': WHATEVER THE INPUT: true; the input reads as it did. -/
def lawS3220AOtherSpec : ChangeSpec := { name := "lawS3220AOther", fn := fun _ => fun
  | [d] => { results := [.lit (.bool true)], args := [d] }
  | _ => none }
def lawS3220AOtherRow : OpenClaim := { program := "ybulkbnqwfmt", sum := "1a5a768c878bf98939d5a2915376fcd4fd1de3cd568652600785c965bfa1ef47", func := "example.com/cliffline/cliffline.LawS3220AOther", spec := "lawS3220AOther", stops := ["fmt.Sprintf"], inPlace := ["fmt.Sprintf"], apart := false }
/-- NO THEOREM (fmt's text is open here; it may be false): for the released tool's asking of the row's closed facts alone. THE STATEMENT IS 'LawS3220AOtherToldSaid' (YbulkbnqwFmtCards.lean). -/
def LawS3220AOtherFormAsk : Prop := lawS3220AOtherRow.holds Ybaf.pinned (OpenSpec.ofChange lawS3220AOtherSpec)

/-- ITS FALSE NEIGHBOUR: 'it returns false'. Refute it at one input. -/
def lawS3220AOtherWrong : ChangeSpec := { name := "lawS3220AOther", fn := fun _ => fun
  | [d] => { results := [.lit (.bool false)], args := [d] }
  | _ => none }
def LawS3220AOtherWrongFormAsk : Prop := lawS3220AOtherRow.holds Ybaf.pinned (OpenSpec.ofChange lawS3220AOtherWrong)

end Rows
end Go.Proofs.YbulkbnqwFmt
