/-
  OUR OWN. '(*store).beforeOf' (function 6).
-/
import Derived.Test.YbulkcsymRows
import Derived.Test.YbulkcsymBlk
import Derived.WalkKit
import Derived.BigQuiet
import Derived.Deep.QuietTactic
import Derived.WalkSmall
import Derived.WalkLawsBesides
namespace Go.Proofs.Ybulkcsym
open Go.RowKit

theorem hide {p : Prop} (h : p) : Hid p := h
theorem ret_int {k : IntKind} {a b : Int} (h : a = b) : Ending.returned (.int k a) = .returned (.int k b) := by rw [h]

/-- One step of the greatest: b against w + 1 (as int adds). -/
def bmax (b w : Int) : Int := if b < wrap64 (w + 1) then wrap64 (w + 1) else b

/-- A transaction as handed in. -/
abbrev txnV (s i b : Int) : Value := .agg #[.int .i64 s, .int .i64 i, .slice none 0 0, .slice none 0 0, .slice none 0 0, .int .i64 b]

theorem fold_step {fr : List Int} {k : Nat} {x b0 : Int} (hx : x = fr.getD k 0) (hk : k < fr.length) :
    (if (fr.take k).foldl bmax b0 < wrap64 (x + 1) then wrap64 (x + 1) else (fr.take k).foldl bmax b0) = (fr.take (k + 1)).foldl bmax b0 := by
  rw [List.take_succ_eq_append_getElem hk, List.foldl_append, hx, List.getD, List.getElem?_eq_getElem hk]
  rfl

set_option maxHeartbeats 400000 in
theorem before_none (St F n : Nat) (s : Int) (fr : List Int) (w : World) (hn : fr.length = n) (hn2 : n ≤ 1024) (hc : ∀ i, i < n → w.cell? ⟨F, i, none⟩ = some (.int .i64 (fr.getD i 0))) (hF : F < w.heap.size) :
    Calls Yba.prog 6 #[.pointer (some ⟨St, 0, none⟩), txnV s 0 0, .slice (some ⟨F, 0, none⟩) n n] w fun e w' => e = .returned (.int .i64 (fr.foldl bmax 0)) ∧ Below w.heap.size w w' := by
  go_enter Yba.func6, Yba.ntmps6
  go_wp2
  go_loop [7, 35] (fun b i => ∃ k : Nat, k ≤ n ∧ i = .int .i64 k ∧ b = .int .i64 ((fr.take k).foldl bmax 0)) (fun _ i => n - (intOf i).toNat)
  case atStart => exact ⟨0, Nat.zero_le _, rfl, rfl⟩
  case round =>
    obtain ⟨k, hk, rfl, rfl⟩ := hrel
    by_cases hlt : k < n
    · obtain ⟨x, hx⟩ : ∃ x, x = fr.getD k 0 := ⟨_, rfl⟩
      have hcx : w.cell? ⟨F, k, none⟩ = some (.int .i64 x) := by rw [hx]; exact hc k hlt
      have HX := hide hx
      clear hx hc
      go_wp2
      go_round
      case rel => exact ⟨k + 1, by omega, by go_num, congrArg _ (fold_step HX.out (by omega))⟩
      case measure => simp [intOf]; omega
    · go_wp2
      go_ret
      exact ⟨ret_int (by rw [List.take_of_length_le (by omega)]), (Below.refl _ _).alloc (Nat.le_refl _) _⟩

set_option maxHeartbeats 400000 in
theorem before_some (St F n T nt ct M G ng cg s i q : Nat) (b : Int) (fr : List Int) (w : World) (hn : fr.length = n) (hn2 : n ≤ 1024) (hc : ∀ i, i < n → w.cell? ⟨F, i, none⟩ = some (.int .i64 (fr.getD i 0))) (hF : F < w.heap.size)
    (hs : s < 2) (hi : i < ng) (hng : ng ≤ 1024) (hq : q < nt) (_hnt : nt ≤ 1024) (c3 : w.cell? ⟨St, 3, none⟩ = some (.slice (some ⟨T, 0, none⟩) nt ct)) (c4 : w.cell? ⟨St, 4, none⟩ = some (.slice (some ⟨M, 0, none⟩) 2 2))
    (cm : w.cell? ⟨M, s, none⟩ = some (.slice (some ⟨G, 0, none⟩) ng cg)) (cg' : w.cell? ⟨G, i, none⟩ = some (.int .i64 (q : Int))) (ct' : w.cell? ⟨T, q * 6 + 5, none⟩ = some (.int .i64 b)) :
    Calls Yba.prog 6 #[.pointer (some ⟨St, 0, none⟩), txnV s ((i : Int) + 1) 0, .slice (some ⟨F, 0, none⟩) n n] w fun e w' => e = .returned (.int .i64 (fr.foldl bmax b)) ∧ Below w.heap.size w w' := by
  have b1 := lt_of_cell c3
  have b2 := lt_of_cell cm
  have b3 := lt_of_cell cg'
  have b4 := lt_of_cell ct'
  have l1 : (s : Int) < 2 := by omega
  have l2 : (i : Int) < (ng : Int) := by omega
  have l3 : (q : Int) < (nt : Int) := by omega
  go_enter Yba.func6, Yba.ntmps6
  go_wp2
  go_quiet (fail)
  go_wp2
  clear c3 c4 cm cg' ct'
  go_loop [7, 35] (fun b' i => ∃ k : Nat, k ≤ n ∧ i = .int .i64 k ∧ b' = .int .i64 ((fr.take k).foldl bmax b)) (fun _ i => n - (intOf i).toNat)
  case atStart => exact ⟨0, Nat.zero_le _, rfl, rfl⟩
  case round =>
    obtain ⟨k, hk, rfl, rfl⟩ := hrel
    by_cases hlt : k < n
    · obtain ⟨x, hx⟩ : ∃ x, x = fr.getD k 0 := ⟨_, rfl⟩
      have hcx : w.cell? ⟨F, k, none⟩ = some (.int .i64 x) := by rw [hx]; exact hc k hlt
      have HX := hide hx
      clear hx hc
      go_wp2
      go_round
      case rel => exact ⟨k + 1, by omega, by go_num, congrArg _ (fold_step HX.out (by omega))⟩
      case measure => simp [intOf]; omega
    · go_wp2
      go_ret
      exact ⟨ret_int (by rw [List.take_of_length_le (by omega)]), below_drewN ((Below.refl _ _).alloc (Nat.le_refl _) _) _⟩
end Go.Proofs.Ybulkcsym
