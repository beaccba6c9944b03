/-
  No cell of these rows narrows 'for every input' (looked for: loops, veiled, ifaces, maps, wideKeys, modest, calm, conditions, laid).
  DERIVED. THE GIVEN ROWS OF THIS SEAT. 3 by the template 'for every input the law returns true; each argument reads behind the call as it read before'; 0 by the template 'total and deterministic' (their statements: YbulkcsymTotals.lean).
  GIVEN WITH THE SEED: the statements are not yours to turn. If you find one false, say at which input.
  Laid BY PROGRAM, IN A SANDBOX (cutbox-rows.mjs): the forced cells as the released guide's own fill.sh prints them over the translation 0da9f3db2e450145… (all of the seat's roots in one cut). By AI agents, Wed Nov 11 2026. No macro, syntax, notation, axiom, sorry.
-/
import Derived.Test.YbulkcsymChecked
import GoSem.Claim
import GoSem.ClaimJoined
import GoSem.ClaimMapViews
import Derived.JoinedTies
import Derived.KernelRfl
namespace Go.Proofs.Ybulkcsym
/- THE CELL 'sum', in the pinned program and in every row, IS THE sha256 OF THE DUMP (.gsa) THAT YbulkcsymProg.lean LOADS. Nothing in Lean hashes anything: it is a label: what it is worth is what the hold of that sum in a sandbox is worth. -/
noncomputable def Yba.pinned : Pinned := { name := "ybulkcsym", sum := "0da9f3db2e450145c9fcb94b5a63ee143eec1bbe54348c501b3e862bfd4e92b0", checked := Yba.checked }
namespace Rows
def none {H : Type} : Left H := { results := [], args := [] }

/-- 'simulate.LawS4731ABefore': WHATEVER THE INPUT: true; the input reads as it did. -/
def lawS4731ABeforeSpec : ChangeSpec := { name := "lawS4731ABefore", fn := fun _ => fun
  | [d1, d2, d3] => { results := [.lit (.bool true)], args := [d1, d2, d3] }
  | _ => none }
def lawS4731ABeforeRow : OpenClaim := { program := "ybulkcsym", sum := "0da9f3db2e450145c9fcb94b5a63ee143eec1bbe54348c501b3e862bfd4e92b0", func := "example.com/vantage/vantage/pkg/simulate.LawS4731ABefore", spec := "lawS4731ABefore", plainKeys := false, apart := false }
def LawS4731ABeforeSaid : Prop := lawS4731ABeforeRow.holds Yba.pinned (OpenSpec.ofChange lawS4731ABeforeSpec)

/-- ITS FALSE NEIGHBOUR: 'it returns false'. Refute it at one input. -/
def lawS4731ABeforeWrong : ChangeSpec := { name := "lawS4731ABefore", fn := fun _ => fun
  | [d1, d2, d3] => { results := [.lit (.bool false)], args := [d1, d2, d3] }
  | _ => none }
def LawS4731ABeforeWrongFalsely : Prop := lawS4731ABeforeRow.holds Yba.pinned (OpenSpec.ofChange lawS4731ABeforeWrong)

/-- 'history.LawS4731BModel': WHATEVER THE INPUT: true; the input reads as it did. -/
def lawS4731BModelSpec : ChangeSpec := { name := "lawS4731BModel", fn := fun _ => fun
  | [d1, d2] => { results := [.lit (.bool true)], args := [d1, d2] }
  | _ => none }
def lawS4731BModelRow : OpenClaim := { program := "ybulkcsym", sum := "0da9f3db2e450145c9fcb94b5a63ee143eec1bbe54348c501b3e862bfd4e92b0", func := "example.com/vantage/vantage/pkg/history.LawS4731BModel", spec := "lawS4731BModel", plainKeys := false, apart := false }
def LawS4731BModelSaid : Prop := lawS4731BModelRow.holds Yba.pinned (OpenSpec.ofChange lawS4731BModelSpec)

/-- ITS FALSE NEIGHBOUR: 'it returns false'. Refute it at one input. -/
def lawS4731BModelWrong : ChangeSpec := { name := "lawS4731BModel", fn := fun _ => fun
  | [d1, d2] => { results := [.lit (.bool false)], args := [d1, d2] }
  | _ => none }
def LawS4731BModelWrongFalsely : Prop := lawS4731BModelRow.holds Yba.pinned (OpenSpec.ofChange lawS4731BModelWrong)

/-- 'model.LawS4731CExact': WHATEVER THE INPUT: true; the input reads as it did. -/
def lawS4731CExactSpec : ChangeSpec := { name := "lawS4731CExact", fn := fun _ => fun
  | [d1, d2, d3, d4] => { results := [.lit (.bool true)], args := [d1, d2, d3, d4] }
  | _ => none }
def lawS4731CExactRow : OpenClaim := { program := "ybulkcsym", sum := "0da9f3db2e450145c9fcb94b5a63ee143eec1bbe54348c501b3e862bfd4e92b0", func := "example.com/vantage/vantage/pkg/model.LawS4731CExact", spec := "lawS4731CExact", plainKeys := false, apart := false }
def LawS4731CExactSaid : Prop := lawS4731CExactRow.holds Yba.pinned (OpenSpec.ofChange lawS4731CExactSpec)

/-- ITS FALSE NEIGHBOUR: 'it returns false'. Refute it at one input. -/
def lawS4731CExactWrong : ChangeSpec := { name := "lawS4731CExact", fn := fun _ => fun
  | [d1, d2, d3, d4] => { results := [.lit (.bool false)], args := [d1, d2, d3, d4] }
  | _ => none }
def LawS4731CExactWrongFalsely : Prop := lawS4731CExactRow.holds Yba.pinned (OpenSpec.ofChange lawS4731CExactWrong)

end Rows
end Go.Proofs.Ybulkcsym
