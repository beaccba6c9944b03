/-
  No cell of these rows narrows 'for every input' (looked for: loops, veiled, ifaces, maps, wideKeys, modest, calm, conditions, laid).
  DERIVED. THE GIVEN ROWS OF THIS SEAT. 2 by the template 'for every input the law returns true; each argument reads behind the call as it read before'; 0 by the template 'total and deterministic' (their statements: YbulkcsvgTotals.lean).
  GIVEN WITH THE SEED: the statements are not yours to turn. If you find one false, say at which input.
  Laid BY PROGRAM, IN A SANDBOX (cutbox-rows.mjs): the forced cells as the released guide's own fill.sh prints them over the translation 516a20869d9ce1e8… (all of the seat's roots in one cut). By AI agents, Wed Nov 11 2026. No macro, syntax, notation, axiom, sorry.
-/
import Derived.Test.YbulkcsvgChecked
import GoSem.Claim
import GoSem.ClaimJoined
import GoSem.ClaimMapViews
import Derived.JoinedTies
import Derived.KernelRfl
namespace Go.Proofs.Ybulkcsvg
/- THE CELL 'sum', in the pinned program and in every row, IS THE sha256 OF THE DUMP (.gsa) THAT YbulkcsvgProg.lean LOADS. Nothing in Lean hashes anything: it is a label: what it is worth is what the hold of that sum in a sandbox is worth. -/
noncomputable def Yba.pinned : Pinned := { name := "ybulkcsvg", sum := "516a20869d9ce1e85621247682662dba7d9cd9225b4b5ea7d381d0825f4fa7e7", checked := Yba.checked }
namespace Rows
def none {H : Type} : Left H := { results := [], args := [] }

/-- 'client.LawS4725AExact': WHATEVER THE INPUT: true; the input reads as it did. -/
def lawS4725AExactSpec : ChangeSpec := { name := "lawS4725AExact", fn := fun _ => fun
  | [d] => { results := [.lit (.bool true)], args := [d] }
  | _ => none }
def lawS4725AExactRow : OpenClaim := { program := "ybulkcsvg", sum := "516a20869d9ce1e85621247682662dba7d9cd9225b4b5ea7d381d0825f4fa7e7", func := "example.com/tickseal/tickseal/pkg/client.LawS4725AExact", spec := "lawS4725AExact", apart := false }
def LawS4725AExactSaid : Prop := lawS4725AExactRow.holds Yba.pinned (OpenSpec.ofChange lawS4725AExactSpec)

/-- ITS FALSE NEIGHBOUR: 'it returns false'. Refute it at one input. -/
def lawS4725AExactWrong : ChangeSpec := { name := "lawS4725AExact", fn := fun _ => fun
  | [d] => { results := [.lit (.bool false)], args := [d] }
  | _ => none }
def LawS4725AExactWrongFalsely : Prop := lawS4725AExactRow.holds Yba.pinned (OpenSpec.ofChange lawS4725AExactWrong)

/-- 'client.LawS4725AMonotone': WHATEVER THE INPUT: true; the input reads as it did. -/
def lawS4725AMonotoneSpec : ChangeSpec := { name := "lawS4725AMonotone", fn := fun _ => fun
  | [d] => { results := [.lit (.bool true)], args := [d] }
  | _ => none }
def lawS4725AMonotoneRow : OpenClaim := { program := "ybulkcsvg", sum := "516a20869d9ce1e85621247682662dba7d9cd9225b4b5ea7d381d0825f4fa7e7", func := "example.com/tickseal/tickseal/pkg/client.LawS4725AMonotone", spec := "lawS4725AMonotone", apart := false }
def LawS4725AMonotoneSaid : Prop := lawS4725AMonotoneRow.holds Yba.pinned (OpenSpec.ofChange lawS4725AMonotoneSpec)

/-- ITS FALSE NEIGHBOUR: 'it returns false'. Refute it at one input. -/
def lawS4725AMonotoneWrong : ChangeSpec := { name := "lawS4725AMonotone", fn := fun _ => fun
  | [d] => { results := [.lit (.bool false)], args := [d] }
  | _ => none }
def LawS4725AMonotoneWrongFalsely : Prop := lawS4725AMonotoneRow.holds Yba.pinned (OpenSpec.ofChange lawS4725AMonotoneWrong)

end Rows
end Go.Proofs.Ybulkcsvg
