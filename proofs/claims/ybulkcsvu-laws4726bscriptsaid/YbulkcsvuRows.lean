/-
  No cell of these rows narrows 'for every input' (looked for: loops, veiled, ifaces, maps, wideKeys, modest, calm, conditions, laid).
  DERIVED. THE GIVEN ROWS OF THIS SEAT. 3 by the template 'for every input the law returns true; each argument reads behind the call as it read before'; 0 by the template 'total and deterministic' (their statements: YbulkcsvuTotals.lean).
  GIVEN WITH THE SEED: the statements are not yours to turn. If you find one false, say at which input.
  Laid BY PROGRAM, IN A SANDBOX (cutbox-rows.mjs): the forced cells as the released guide's own fill.sh prints them over the translation fbbcb82bc09f1cf2… (all of the seat's roots in one cut). By AI agents, Wed Nov 11 2026. No macro, syntax, notation, axiom, sorry.
-/
import Derived.Test.YbulkcsvuChecked
import GoSem.Claim
import GoSem.ClaimJoined
import GoSem.ClaimMapViews
import Derived.JoinedTies
import Derived.KernelRfl
namespace Go.Proofs.Ybulkcsvu
/- THE CELL 'sum', in the pinned program and in every row, IS THE sha256 OF THE DUMP (.gsa) THAT YbulkcsvuProg.lean LOADS. Nothing in Lean hashes anything: it is a label: what it is worth is what the hold of that sum in a sandbox is worth. -/
noncomputable def Yba.pinned : Pinned := { name := "ybulkcsvu", sum := "fbbcb82bc09f1cf233431c661509c8b6794c8cf334a1bfb1fb3e5ad520a4df9a", checked := Yba.checked }
namespace Rows
def none {H : Type} : Left H := { results := [], args := [] }

/-- 'bucketry.LawS4726ATruth': WHATEVER THE INPUT: true; the input reads as it did. -/
def lawS4726ATruthSpec : ChangeSpec := { name := "lawS4726ATruth", fn := fun _ => fun
  | [d1, d2] => { results := [.lit (.bool true)], args := [d1, d2] }
  | _ => none }
def lawS4726ATruthRow : OpenClaim := { program := "ybulkcsvu", sum := "fbbcb82bc09f1cf233431c661509c8b6794c8cf334a1bfb1fb3e5ad520a4df9a", func := "example.com/bucketry/bucketry.LawS4726ATruth", spec := "lawS4726ATruth", recurses := true, apart := false }
def LawS4726ATruthSaid : Prop := lawS4726ATruthRow.holds Yba.pinned (OpenSpec.ofChange lawS4726ATruthSpec)

/-- ITS FALSE NEIGHBOUR: 'it returns false'. Refute it at one input. -/
def lawS4726ATruthWrong : ChangeSpec := { name := "lawS4726ATruth", fn := fun _ => fun
  | [d1, d2] => { results := [.lit (.bool false)], args := [d1, d2] }
  | _ => none }
def LawS4726ATruthWrongFalsely : Prop := lawS4726ATruthRow.holds Yba.pinned (OpenSpec.ofChange lawS4726ATruthWrong)

/-- 'bucketry.LawS4726ALeaves': WHATEVER THE INPUT: true; the input reads as it did. -/
def lawS4726ALeavesSpec : ChangeSpec := { name := "lawS4726ALeaves", fn := fun _ => fun
  | [d] => { results := [.lit (.bool true)], args := [d] }
  | _ => none }
def lawS4726ALeavesRow : OpenClaim := { program := "ybulkcsvu", sum := "fbbcb82bc09f1cf233431c661509c8b6794c8cf334a1bfb1fb3e5ad520a4df9a", func := "example.com/bucketry/bucketry.LawS4726ALeaves", spec := "lawS4726ALeaves", recurses := true, apart := false }
def LawS4726ALeavesSaid : Prop := lawS4726ALeavesRow.holds Yba.pinned (OpenSpec.ofChange lawS4726ALeavesSpec)

/-- ITS FALSE NEIGHBOUR: 'it returns false'. Refute it at one input. -/
def lawS4726ALeavesWrong : ChangeSpec := { name := "lawS4726ALeaves", fn := fun _ => fun
  | [d] => { results := [.lit (.bool false)], args := [d] }
  | _ => none }
def LawS4726ALeavesWrongFalsely : Prop := lawS4726ALeavesRow.holds Yba.pinned (OpenSpec.ofChange lawS4726ALeavesWrong)

/-- 'bucketry.LawS4726BScript': WHATEVER THE INPUT: true; the input reads as it did. -/
def lawS4726BScriptSpec : ChangeSpec := { name := "lawS4726BScript", fn := fun _ => fun
  | [d] => { results := [.lit (.bool true)], args := [d] }
  | _ => none }
def lawS4726BScriptRow : OpenClaim := { program := "ybulkcsvu", sum := "fbbcb82bc09f1cf233431c661509c8b6794c8cf334a1bfb1fb3e5ad520a4df9a", func := "example.com/bucketry/bucketry.LawS4726BScript", spec := "lawS4726BScript", recurses := true, apart := false }
def LawS4726BScriptSaid : Prop := lawS4726BScriptRow.holds Yba.pinned (OpenSpec.ofChange lawS4726BScriptSpec)

/-- ITS FALSE NEIGHBOUR: 'it returns false'. Refute it at one input. -/
def lawS4726BScriptWrong : ChangeSpec := { name := "lawS4726BScript", fn := fun _ => fun
  | [d] => { results := [.lit (.bool false)], args := [d] }
  | _ => none }
def LawS4726BScriptWrongFalsely : Prop := lawS4726BScriptRow.holds Yba.pinned (OpenSpec.ofChange lawS4726BScriptWrong)

end Rows
end Go.Proofs.Ybulkcsvu
