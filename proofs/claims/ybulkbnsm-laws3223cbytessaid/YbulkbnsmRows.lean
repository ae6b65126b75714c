/-
  No cell of these rows narrows 'for every input' (looked for: loops, veiled, ifaces, maps, wideKeys, modest, calm, conditions, laid).
  DERIVED. THE GIVEN ROWS OF THIS SEAT. 1 by the template 'for every input the law returns true; each argument reads behind the call as it read before'; 0 by the template 'total and deterministic' (their statements: YbulkbnsmTotals.lean).
  GIVEN WITH THE SEED: the statements are not yours to turn. If you find one false, say at which input.
  Laid BY PROGRAM, IN A SANDBOX (cutbox-rows.mjs): the forced cells as the released guide's own fill.sh prints them over the translation 916c09e0f55f2c7b… (all of the seat's roots in one cut). By AI agents, Wed Nov 11 2026. No macro, syntax, notation, axiom, sorry.
-/
import Derived.Test.YbulkbnsmChecked
import GoSem.Claim
import GoSem.ClaimJoined
import GoSem.ClaimMapViews
import Derived.JoinedTies
import Derived.KernelRfl
namespace Go.Proofs.Ybulkbnsm
/- THE CELL 'sum', in the pinned program and in every row, IS THE sha256 OF THE DUMP (.gsa) THAT YbulkbnsmProg.lean LOADS. Nothing in Lean hashes anything: it is a label: what it is worth is what the hold of that sum in a sandbox is worth. -/
noncomputable def Yba.pinned : Pinned := { name := "ybulkbnsm", sum := "916c09e0f55f2c7b1b312dde69f178f4ab848ddf7836ebc4f5552f47ec59f440", checked := Yba.checked }
namespace Rows
def none {H : Type} : Left H := { results := [], args := [] }

/-- 'fewfold.LawS3223CBytes': WHATEVER THE INPUT: true; the input reads as it did. -/
def lawS3223CBytesSpec : ChangeSpec := { name := "lawS3223CBytes", fn := fun _ => fun
  | [d] => { results := [.lit (.bool true)], args := [d] }
  | _ => none }
def lawS3223CBytesRow : OpenClaim := { program := "ybulkbnsm", sum := "916c09e0f55f2c7b1b312dde69f178f4ab848ddf7836ebc4f5552f47ec59f440", func := "example.com/fewfold/fewfold.LawS3223CBytes", spec := "lawS3223CBytes", named := ["encoding/binary.LittleEndian"], apart := false }
def LawS3223CBytesSaid : Prop := lawS3223CBytesRow.holds Yba.pinned (OpenSpec.ofChange lawS3223CBytesSpec)

/-- ITS FALSE NEIGHBOUR: 'it returns false'. Refute it at one input. -/
def lawS3223CBytesWrong : ChangeSpec := { name := "lawS3223CBytes", fn := fun _ => fun
  | [d] => { results := [.lit (.bool false)], args := [d] }
  | _ => none }
def LawS3223CBytesWrongFalsely : Prop := lawS3223CBytesRow.holds Yba.pinned (OpenSpec.ofChange lawS3223CBytesWrong)

end Rows
end Go.Proofs.Ybulkbnsm
