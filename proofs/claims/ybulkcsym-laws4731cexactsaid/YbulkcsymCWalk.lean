/-
  OUR OWN. 'LawS4731CExact' (function 5): her walk.
-/
import Derived.Test.YbulkcsymTail5
namespace Go.Proofs.Ybulkcsym
open Go.RowKit

set_option maxRecDepth 100000 in
set_option maxHeartbeats 4000000 in
theorem c_walk (a0 a2 a3 : Option Addr) (n c0 lw c2 lc c3 b0 o0 b2 o2 b3 o3 : Nat) (ns : Int) (sd wd cd : List Int) (w : World)
    (h0 : 0 < n → a0 = some ⟨b0, o0, none⟩) (h2 : 0 < lw → a2 = some ⟨b2, o2, none⟩) (h3 : 0 < lc → a3 = some ⟨b3, o3, none⟩)
    (r0 : ∀ i, i < n → 0 ≤ sd.getD i 0 ∧ sd.getD i 0 ≤ 255) (r2 : ∀ i, i < lw → 0 ≤ wd.getD i 0 ∧ wd.getD i 0 ≤ 255) (r3 : ∀ i, i < lc → 0 ≤ cd.getD i 0 ∧ cd.getD i 0 ≤ 255)
    (x0 : ∀ i, i < n → w.cell? ⟨b0, o0 + i, none⟩ = some (.int .u8 (sd.getD i 0))) (x2 : ∀ i, i < lw → w.cell? ⟨b2, o2 + i, none⟩ = some (.int .u8 (wd.getD i 0))) (x3 : ∀ i, i < lc → w.cell? ⟨b3, o3 + i, none⟩ = some (.int .u8 (cd.getD i 0)))
    (t0 : 0 < n → b0 < w.heap.size) (t2 : 0 < lw → b2 < w.heap.size) (t3 : 0 < lc → b3 < w.heap.size) (hn : n ≤ 300) (hlw : lw ≤ 4096) (hlc : lc ≤ 4096) (hns0 : 0 ≤ ns) (hns1 : ns ≤ 255) :
    Calls Yba.prog 5 #[.slice a0 n c0, .int .u8 ns, .slice a2 lw c2, .slice a3 lc c3] w fun e w' => e = .returned (.bool true) ∧ Below w.heap.size w w' := by
  have hd1 : decide ((300 : Int) < (n : Int)) = false := decide_eq_false (by omega)
  have hd2 : decide ((4096 : Int) < (lc : Int)) = false := decide_eq_false (by omega)
  have hd3 : decide ((4096 : Int) < (lw : Int)) = false := decide_eq_false (by omega)
  obtain ⟨S, hS⟩ : ∃ S : Nat, (S : Int) = ns % 4 + 1 := ⟨(ns % 4 + 1).toNat, by omega⟩
  have hS1 : 1 ≤ S := by omega
  have hS4 : S ≤ 4 := by omega
  have HS := hide hS
  clear hS
  have HT := hide (make63 n hn)
  have HR := hide fun w => run_make_row' (P := Yba.prog) 25 22 (.slice none 0 0) 24 Yba.underlying25 info22 rfl .i64 .i64 S (by omega) (by omega) w
  have X0 := hide x0
  have X2 := hide x2
  have X3 := hide x3
  have R0 := hide r0
  have R2 := hide r2
  have R3 := hide r3
  clear x0 x2 x3 r0 r2 r3
  go_enter Yba.func5, Yba.ntmps5
  go_upto_region 5 with fail
  rw [← HS.out]
  have hT := HT.out
  have hR := HR.out
  go_cut [11] (fun c wc => ∃ tb sb, c = .pointer (some ⟨w.heap.size + 2, 0, none⟩) ∧ Start0 w wc n S tb sb)
  case first =>
    go_region
    all_goals
      go_wp2_with fail
      go_meet
      case rel => first | exact ⟨_, _, rfl, (start_a w n S).drew⟩ | exact ⟨_, _, rfl, (start_b w n S).drew⟩
  case rest =>
  obtain ⟨tb, sb, rfl, hst⟩ := hcut
  exact tail5 w wc _ (by assumption) a0 a2 a3 n c0 b0 o0 S lw c2 b2 o2 lc c3 b3 o3 tb sb sd wd cd h0 R0 X0 t0 h2 R2 X2 t2 h3 R3 X3 t3 hn hlw hlc hS1 hS4 hst

set_option maxRecDepth 100000 in
set_option maxHeartbeats 4000000 in
theorem c_long (a0 a2 a3 : Option Addr) (n c0 lw c2 lc c3 : Nat) (ns : Int) (w : World) (h : ¬ (n ≤ 300 ∧ lc ≤ 4096 ∧ lw ≤ 4096)) :
    Calls Yba.prog 5 #[.slice a0 n c0, .int .u8 ns, .slice a2 lw c2, .slice a3 lc c3] w fun e w' => e = .returned (.bool true) ∧ Below w.heap.size w w' := by
  by_cases h1 : n ≤ 300
  · have hd1 : decide ((300 : Int) < (n : Int)) = false := decide_eq_false (by omega)
    by_cases h2 : lc ≤ 4096
    · have hd2 : decide ((4096 : Int) < (lc : Int)) = false := decide_eq_false (by omega)
      have hd3 : decide ((4096 : Int) < (lw : Int)) = true := decide_eq_true (by omega)
      go_enter Yba.func5, Yba.ntmps5
      go_wp2
      go_ret
      exact ⟨rfl, Below.refl _ _⟩
    · have hd2 : decide ((4096 : Int) < (lc : Int)) = true := decide_eq_true (by omega)
      go_enter Yba.func5, Yba.ntmps5
      go_wp2
      go_ret
      exact ⟨rfl, Below.refl _ _⟩
  · have hd1 : decide ((300 : Int) < (n : Int)) = true := decide_eq_true (by omega)
    go_enter Yba.func5, Yba.ntmps5
    go_wp2
    go_ret
    exact ⟨rfl, Below.refl _ _⟩
end Go.Proofs.Ybulkcsym
