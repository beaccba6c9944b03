/-
  No cell of these rows narrows 'for every input' (looked for: loops, veiled, ifaces, maps, wideKeys, modest, calm, conditions, laid).
  DERIVED. THE GIVEN ROWS OF THIS SEAT. 3 by the template 'for every input the law returns true; each argument reads behind the call as it read before'; 0 by the template 'total and deterministic' (their statements: YbulkcstqTotals.lean).
  GIVEN WITH THE SEED: the statements are not yours to turn. If you find one false, say at which input.
  Laid BY PROGRAM, IN A SANDBOX (cutbox-rows.mjs): the forced cells as the released guide's own fill.sh prints them over the translation 332d2038139a303b… (all of the seat's roots in one cut). By AI agents, Wed Nov 11 2026. No macro, syntax, notation, axiom, sorry.
-/
import Derived.Test.YbulkcstqChecked
import GoSem.Claim
import GoSem.ClaimJoined
import GoSem.ClaimMapViews
import Derived.JoinedTies
import Derived.KernelRfl
namespace Go.Proofs.Ybulkcstq
/- THE CELL 'sum', in the pinned program and in every row, IS THE sha256 OF THE DUMP (.gsa) THAT YbulkcstqProg.lean LOADS. Nothing in Lean hashes anything: it is a label: what it is worth is what the hold of that sum in a sandbox is worth. -/
noncomputable def Yba.pinned : Pinned := { name := "ybulkcstq", sum := "332d2038139a303b26917fd89aa3163872dd6740d2fd990da1e5bd8f2efa2d2e", checked := Yba.checked }
namespace Rows
def none {H : Type} : Left H := { results := [], args := [] }

/-- 'sweep.LawS4722ABlocked': WHATEVER THE INPUT: true; the input reads as it did. -/
def lawS4722ABlockedSpec : ChangeSpec := { name := "lawS4722ABlocked", fn := fun _ => fun
  | [d1, d2, d3, d4] => { results := [.lit (.bool true)], args := [d1, d2, d3, d4] }
  | _ => none }
def lawS4722ABlockedRow : OpenClaim := { program := "ybulkcstq", sum := "332d2038139a303b26917fd89aa3163872dd6740d2fd990da1e5bd8f2efa2d2e", func := "example.com/verger/verger/internal/sweep.LawS4722ABlocked", spec := "lawS4722ABlocked", apart := false }
def LawS4722ABlockedSaid : Prop := lawS4722ABlockedRow.holds Yba.pinned (OpenSpec.ofChange lawS4722ABlockedSpec)

/-- ITS FALSE NEIGHBOUR: 'it returns false'. Refute it at one input. -/
def lawS4722ABlockedWrong : ChangeSpec := { name := "lawS4722ABlocked", fn := fun _ => fun
  | [d1, d2, d3, d4] => { results := [.lit (.bool false)], args := [d1, d2, d3, d4] }
  | _ => none }
def LawS4722ABlockedWrongFalsely : Prop := lawS4722ABlockedRow.holds Yba.pinned (OpenSpec.ofChange lawS4722ABlockedWrong)

/-- 'sweep.LawS4722BTable': WHATEVER THE INPUT: true; the input reads as it did. -/
def lawS4722BTableSpec : ChangeSpec := { name := "lawS4722BTable", fn := fun _ => fun
  | [d1, d2, d3] => { results := [.lit (.bool true)], args := [d1, d2, d3] }
  | _ => none }
def lawS4722BTableRow : OpenClaim := { program := "ybulkcstq", sum := "332d2038139a303b26917fd89aa3163872dd6740d2fd990da1e5bd8f2efa2d2e", func := "example.com/verger/verger/internal/sweep.LawS4722BTable", spec := "lawS4722BTable", apart := false }
def LawS4722BTableSaid : Prop := lawS4722BTableRow.holds Yba.pinned (OpenSpec.ofChange lawS4722BTableSpec)

/-- ITS FALSE NEIGHBOUR: 'it returns false'. Refute it at one input. -/
def lawS4722BTableWrong : ChangeSpec := { name := "lawS4722BTable", fn := fun _ => fun
  | [d1, d2, d3] => { results := [.lit (.bool false)], args := [d1, d2, d3] }
  | _ => none }
def LawS4722BTableWrongFalsely : Prop := lawS4722BTableRow.holds Yba.pinned (OpenSpec.ofChange lawS4722BTableWrong)

/-- 'sweep.LawS4722BStrings': WHATEVER THE INPUT: true; the input reads as it did. -/
def lawS4722BStringsSpec : ChangeSpec := { name := "lawS4722BStrings", fn := fun _ => fun
  | [d1, d2, d3] => { results := [.lit (.bool true)], args := [d1, d2, d3] }
  | _ => none }
def lawS4722BStringsRow : OpenClaim := { program := "ybulkcstq", sum := "332d2038139a303b26917fd89aa3163872dd6740d2fd990da1e5bd8f2efa2d2e", func := "example.com/verger/verger/internal/sweep.LawS4722BStrings", spec := "lawS4722BStrings", apart := false }
def LawS4722BStringsSaid : Prop := lawS4722BStringsRow.holds Yba.pinned (OpenSpec.ofChange lawS4722BStringsSpec)

/-- ITS FALSE NEIGHBOUR: 'it returns false'. Refute it at one input. -/
def lawS4722BStringsWrong : ChangeSpec := { name := "lawS4722BStrings", fn := fun _ => fun
  | [d1, d2, d3] => { results := [.lit (.bool false)], args := [d1, d2, d3] }
  | _ => none }
def LawS4722BStringsWrongFalsely : Prop := lawS4722BStringsRow.holds Yba.pinned (OpenSpec.ofChange lawS4722BStringsWrong)

end Rows
end Go.Proofs.Ybulkcstq
