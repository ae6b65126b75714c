/-
  No cell of these rows narrows 'for every input' (looked for: loops, veiled, ifaces, maps, wideKeys, modest, calm, conditions, laid).
  DERIVED. THE GIVEN ROWS OF THIS SEAT. 3 by the template 'for every input the law returns true; each argument reads behind the call as it read before'; 0 by the template 'total and deterministic' (their statements: YbulkbnosTotals.lean).
  GIVEN WITH THE SEED: the statements are not yours to turn. If you find one false, say at which input.
  Laid BY PROGRAM, IN A SANDBOX (cutbox-rows.mjs): the forced cells as the released guide's own fill.sh prints them over the translation c3aef67d2875bd34… (all of the seat's roots in one cut). By AI agents, Wed Nov 11 2026. No macro, syntax, notation, axiom, sorry.
-/
import Derived.Test.YbulkbnosChecked
import GoSem.Claim
import GoSem.ClaimJoined
import GoSem.ClaimMapViews
import Derived.JoinedTies
import Derived.KernelRfl
namespace Go.Proofs.Ybulkbnos
/- THE CELL 'sum', in the pinned program and in every row, IS THE sha256 OF THE DUMP (.gsa) THAT YbulkbnosProg.lean LOADS. Nothing in Lean hashes anything: it is a label: what it is worth is what the hold of that sum in a sandbox is worth. -/
noncomputable def Yba.pinned : Pinned := { name := "ybulkbnos", sum := "c3aef67d2875bd348795f50bb484f8b0380a9cec103f1c60b596c918204ebd7f", checked := Yba.checked }
namespace Rows
def none {H : Type} : Left H := { results := [], args := [] }

/-- 'algo.LawS3216AEmpty': WHATEVER THE INPUT: true; the input reads as it did. -/
def lawS3216AEmptySpec : ChangeSpec := { name := "lawS3216AEmpty", fn := fun _ => fun
  | [d1, d2, d3, d4] => { results := [.lit (.bool true)], args := [d1, d2, d3, d4] }
  | _ => none }
def lawS3216AEmptyRow : OpenClaim := { program := "ybulkbnos", sum := "c3aef67d2875bd348795f50bb484f8b0380a9cec103f1c60b596c918204ebd7f", func := "example.com/hopkin/hopkin/pkg/algo.LawS3216AEmpty", spec := "lawS3216AEmpty", inPlace := ["math.Float64frombits", "math.Float64bits"], unfollowed := true, recurses := true, plainKeys := false, apart := false }
def LawS3216AEmptySaid : Prop := lawS3216AEmptyRow.holds Yba.pinned (OpenSpec.ofChange lawS3216AEmptySpec)

/-- ITS FALSE NEIGHBOUR: 'it returns false'. Refute it at one input. -/
def lawS3216AEmptyWrong : ChangeSpec := { name := "lawS3216AEmpty", fn := fun _ => fun
  | [d1, d2, d3, d4] => { results := [.lit (.bool false)], args := [d1, d2, d3, d4] }
  | _ => none }
def LawS3216AEmptyWrongFalsely : Prop := lawS3216AEmptyRow.holds Yba.pinned (OpenSpec.ofChange lawS3216AEmptyWrong)

/-- 'condition.LawS3216CFirsts': WHATEVER THE INPUT: true; the input reads as it did. -/
def lawS3216CFirstsSpec : ChangeSpec := { name := "lawS3216CFirsts", fn := fun _ => fun
  | [d] => { results := [.lit (.bool true)], args := [d] }
  | _ => none }
def lawS3216CFirstsRow : OpenClaim := { program := "ybulkbnos", sum := "c3aef67d2875bd348795f50bb484f8b0380a9cec103f1c60b596c918204ebd7f", func := "example.com/hopkin/hopkin/pkg/condition.LawS3216CFirsts", spec := "lawS3216CFirsts", plainKeys := false, apart := false }
def LawS3216CFirstsSaid : Prop := lawS3216CFirstsRow.holds Yba.pinned (OpenSpec.ofChange lawS3216CFirstsSpec)

/-- ITS FALSE NEIGHBOUR: 'it returns false'. Refute it at one input. -/
def lawS3216CFirstsWrong : ChangeSpec := { name := "lawS3216CFirsts", fn := fun _ => fun
  | [d] => { results := [.lit (.bool false)], args := [d] }
  | _ => none }
def LawS3216CFirstsWrongFalsely : Prop := lawS3216CFirstsRow.holds Yba.pinned (OpenSpec.ofChange lawS3216CFirstsWrong)

/-- 'condition.LawS3216CScript': WHATEVER THE INPUT: true; the input reads as it did. -/
def lawS3216CScriptSpec : ChangeSpec := { name := "lawS3216CScript", fn := fun _ => fun
  | [d] => { results := [.lit (.bool true)], args := [d] }
  | _ => none }
def lawS3216CScriptRow : OpenClaim := { program := "ybulkbnos", sum := "c3aef67d2875bd348795f50bb484f8b0380a9cec103f1c60b596c918204ebd7f", func := "example.com/hopkin/hopkin/pkg/condition.LawS3216CScript", spec := "lawS3216CScript", plainKeys := false, apart := false }
def LawS3216CScriptSaid : Prop := lawS3216CScriptRow.holds Yba.pinned (OpenSpec.ofChange lawS3216CScriptSpec)

/-- ITS FALSE NEIGHBOUR: 'it returns false'. Refute it at one input. -/
def lawS3216CScriptWrong : ChangeSpec := { name := "lawS3216CScript", fn := fun _ => fun
  | [d] => { results := [.lit (.bool false)], args := [d] }
  | _ => none }
def LawS3216CScriptWrongFalsely : Prop := lawS3216CScriptRow.holds Yba.pinned (OpenSpec.ofChange lawS3216CScriptWrong)

end Rows
end Go.Proofs.Ybulkbnos
