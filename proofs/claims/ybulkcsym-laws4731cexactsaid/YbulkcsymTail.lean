/-
  OUR OWN. 'LawS4731CExact' (function 5): what is left of its body behind its n-th statement, so that its walk may be told in several theorems.
-/
import Derived.Test.YbulkcsymWri
namespace Go.Proofs.Ybulkcsym
open Go.RowKit

def codeDrop : Nat → Code → Code
  | 0, c => c
  | n + 1, .seq _ c => codeDrop n c
  | _ + 1, c => c
/-- What is left of a body behind n statements. -/
def restOf (b : Option Code) (n : Nat) : Code := match b with
  | some c => codeDrop n c
  | none => .skip
theorem wp_seq_of {P : Program} {Q : Exit → Act → World → Prop} {a : Act} {w : World} {c x y : Code} (hc : c = .seq x y) (h : (Code.seq x y).wp P Q a w) : c.wp P Q a w := hc ▸ h
end Go.Proofs.Ybulkcsym
