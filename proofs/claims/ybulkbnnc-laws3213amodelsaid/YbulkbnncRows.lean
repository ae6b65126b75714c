/-
  No cell of these rows narrows 'for every input' (looked for: loops, veiled, ifaces, maps, wideKeys, modest, calm, conditions, laid).
  DERIVED. THE GIVEN ROWS OF THIS SEAT. 2 by the template 'for every input the law returns true; each argument reads behind the call as it read before'; 0 by the template 'total and deterministic' (their statements: YbulkbnncTotals.lean).
  GIVEN WITH THE SEED: the statements are not yours to turn. If you find one false, say at which input.
  Laid BY PROGRAM, IN A SANDBOX (cutbox-rows.mjs): the forced cells as the released guide's own fill.sh prints them over the translation 654872fc1e6be847… (all of the seat's roots in one cut). By AI agents, Wed Nov 11 2026. No macro, syntax, notation, axiom, sorry.
-/
import Derived.Test.YbulkbnncChecked
import GoSem.Claim
import GoSem.ClaimJoined
import GoSem.ClaimMapViews
import Derived.JoinedTies
import Derived.KernelRfl
namespace Go.Proofs.Ybulkbnnc
/- THE CELL 'sum', in the pinned program and in every row, IS THE sha256 OF THE DUMP (.gsa) THAT YbulkbnncProg.lean LOADS. Nothing in Lean hashes anything: it is a label: what it is worth is what the hold of that sum in a sandbox is worth. -/
noncomputable def Yba.pinned : Pinned := { name := "ybulkbnnc", sum := "654872fc1e6be847af30568d569b3922c4396246a74cd6a0fb76d070b8840894", checked := Yba.checked }
namespace Rows
def none {H : Type} : Left H := { results := [], args := [] }

/-- 'tunnel.LawS3213AModel': WHATEVER THE INPUT: true; the input reads as it did. -/
def lawS3213AModelSpec : ChangeSpec := { name := "lawS3213AModel", fn := fun _ => fun
  | [d1, d2, d3] => { results := [.lit (.bool true)], args := [d1, d2, d3] }
  | _ => none }
def lawS3213AModelRow : OpenClaim := { program := "ybulkbnnc", sum := "654872fc1e6be847af30568d569b3922c4396246a74cd6a0fb76d070b8840894", func := "example.com/hexaduct/hexaduct/pkg/tunnel.LawS3213AModel", spec := "lawS3213AModel", inPlace := ["math/bits.Add64"], named := ["encoding/binary.LittleEndian", "encoding/binary.BigEndian"], apart := false }
def LawS3213AModelSaid : Prop := lawS3213AModelRow.holds Yba.pinned (OpenSpec.ofChange lawS3213AModelSpec)

/-- ITS FALSE NEIGHBOUR: 'it returns false'. Refute it at one input. -/
def lawS3213AModelWrong : ChangeSpec := { name := "lawS3213AModel", fn := fun _ => fun
  | [d1, d2, d3] => { results := [.lit (.bool false)], args := [d1, d2, d3] }
  | _ => none }
def LawS3213AModelWrongFalsely : Prop := lawS3213AModelRow.holds Yba.pinned (OpenSpec.ofChange lawS3213AModelWrong)

/-- 'tunnel.LawS3213AVerify': WHATEVER THE INPUT: true; the input reads as it did. -/
def lawS3213AVerifySpec : ChangeSpec := { name := "lawS3213AVerify", fn := fun _ => fun
  | [d1, d2, d3, d4] => { results := [.lit (.bool true)], args := [d1, d2, d3, d4] }
  | _ => none }
def lawS3213AVerifyRow : OpenClaim := { program := "ybulkbnnc", sum := "654872fc1e6be847af30568d569b3922c4396246a74cd6a0fb76d070b8840894", func := "example.com/hexaduct/hexaduct/pkg/tunnel.LawS3213AVerify", spec := "lawS3213AVerify", inPlace := ["math/bits.Add64"], named := ["encoding/binary.LittleEndian", "encoding/binary.BigEndian"], apart := false }
def LawS3213AVerifySaid : Prop := lawS3213AVerifyRow.holds Yba.pinned (OpenSpec.ofChange lawS3213AVerifySpec)

/-- ITS FALSE NEIGHBOUR: 'it returns false'. Refute it at one input. -/
def lawS3213AVerifyWrong : ChangeSpec := { name := "lawS3213AVerify", fn := fun _ => fun
  | [d1, d2, d3, d4] => { results := [.lit (.bool false)], args := [d1, d2, d3, d4] }
  | _ => none }
def LawS3213AVerifyWrongFalsely : Prop := lawS3213AVerifyRow.holds Yba.pinned (OpenSpec.ofChange lawS3213AVerifyWrong)

end Rows
end Go.Proofs.Ybulkbnnc
