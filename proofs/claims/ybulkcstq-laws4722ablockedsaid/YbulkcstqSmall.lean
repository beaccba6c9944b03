/-
  OUR OWN. 'zzs4722aid' (6), 'zzs4722aidx' (8), 'zzs4722arisk' (9), 'risk' (13).
-/
import Derived.Test.YbulkcstqReady
import Derived.WalkKit
import Derived.WalkSpells
import Derived.WalkSmall
import Derived.WalkLawsBesides
import Derived.Deep.QuietTactic
import Derived.BigQuiet
import Derived.BigRegion
import Derived.Deep.LoopGhost
import Derived.Deep.DeepCutAuto
import Derived.Deep.CutBlock
namespace Go.Proofs.Ybulkcstq
open Go.RowKit

def letter (k : Nat) : UInt8 := #[97, 98, 99, 100, 101, 102, 103, 104, 122].getD k 0
def idS (k : Nat) : ByteArray := ⟨#[letter k]⟩
theorem idS_inj {j k : Nat} (hj : j < 9) (hk : k < 9) (h : idS j = idS k) : j = k := by
  have : ∀ j, j < 9 → ∀ k, k < 9 → letter j = letter k → j = k := by decide
  refine this j hj k hk ?_
  have h2 : (idS j).data = (idS k).data := by rw [h]
  simpa [idS] using h2

theorem idS_toList (k : Nat) : (idS k).toList = [letter k] := by
  show ByteArray.toList ⟨#[letter k]⟩ = [letter k]
  rw [ByteArray.toList, ByteArray.toList.loop, if_pos (show 0 < ByteArray.size ⟨#[letter k]⟩ from Nat.zero_lt_one), ByteArray.toList.loop, if_neg (show ¬ 0 + 1 < ByteArray.size ⟨#[letter k]⟩ from Nat.lt_irrefl 1)]
  rfl
theorem idS_beq {j k : Nat} (hj : j < 9) (hk : k < 9) (h : k ≠ j) : ((idS k).toList == (idS j).toList) = false := by
  have : ∀ j, j < 9 → ∀ k, k < 9 → k ≠ j → ([letter k] == [letter j]) = false := by decide
  rw [idS_toList, idS_toList]
  exact this j hj k hk h

set_option maxHeartbeats 1000000 in
theorem aid (k : Nat) (hk : k < 9) (w : World) : Calls Yba.prog 6 #[.int .i64 k] w fun e w' => e = .returned (.string (idS k)) ∧ w' = w := by
  rcases (show k = 0 ∨ k = 1 ∨ k = 2 ∨ k = 3 ∨ k = 4 ∨ k = 5 ∨ k = 6 ∨ k = 7 ∨ k = 8 by omega) with rfl | rfl | rfl | rfl | rfl | rfl | rfl | rfl | rfl
  all_goals
    go_enter Yba.func6, Yba.ntmps6
    go_wp2
    go_ret
    exact ⟨rfl, rfl⟩

def riskN (d : Nat) : Int := if d = 1 then 1 else if d = 2 then 2 else 3
theorem arisk (d : Nat) (hd : d ≤ 100) (w : World) : Calls Yba.prog 9 #[.int .i64 d] w fun e w' => e = .returned (.int .i64 (riskN d)) ∧ w' = w := by
  by_cases h1 : d = 1
  · subst h1
    go_enter Yba.func9, Yba.ntmps9
    go_wp2
    go_ret
    exact ⟨rfl, rfl⟩
  · have t1 : ((d : Int) == 1) = false := by simp; omega
    by_cases h2 : d = 2
    · subst h2
      go_enter Yba.func9, Yba.ntmps9
      go_wp2
      go_ret
      exact ⟨rfl, rfl⟩
    · have t2 : ((d : Int) == 2) = false := by simp; omega
      rw [show riskN d = 3 by simp [riskN, h1, h2]]
      go_enter Yba.func9, Yba.ntmps9
      go_wp2
      go_ret
      exact ⟨rfl, rfl⟩
theorem brisk (d : Nat) (hd : d ≤ 100) (w : World) : Calls Yba.prog 13 #[.int .i64 d] w fun e w' => e = .returned (.int .i64 (riskN d)) ∧ w' = w := by
  by_cases h1 : d = 1
  · subst h1
    go_enter Yba.func13, Yba.ntmps13
    go_wp2
    go_ret
    exact ⟨rfl, rfl⟩
  · have t1 : ((d : Int) == 1) = false := by simp; omega
    by_cases h2 : d = 2
    · subst h2
      go_enter Yba.func13, Yba.ntmps13
      go_wp2
      go_ret
      exact ⟨rfl, rfl⟩
    · have t2 : ((d : Int) == 2) = false := by simp; omega
      rw [show riskN d = 3 by simp [riskN, h1, h2]]
      go_enter Yba.func13, Yba.ntmps13
      go_wp2
      go_ret
      exact ⟨rfl, rfl⟩

set_option maxHeartbeats 1000000 in
theorem aidx (j : Nat) (hj : j < 9) (w : World) : Calls Yba.prog 8 #[.string (idS j)] w fun e w' => e = .returned (.int .i64 j) ∧ w' = w := by
  have HA := hide fun k hk w => aid k hk w
  go_enter Yba.func8, Yba.ntmps8
  go_wp2
  go_loopw [3] (fun i wr => ∃ k : Nat, k ≤ j ∧ i = .int .i64 k ∧ wr = w) (fun i _ => 9 - (intOf i).toNat)
  case atStart => exact ⟨0, Nat.zero_le _, rfl, rfl⟩
  case round =>
    obtain ⟨k, hk, rfl, rfl⟩ := hrel
    have hg : decide ((k : Int) < 9) = true := decide_eq_true (by omega)
    go_wp2_with fail
    refine (HA.out k (by omega) _).mono ?_
    rintro e w1 ⟨rfl, rfl⟩
    by_cases e : k = j
    · subst e
      go_wp2
      go_ret
      exact ⟨rfl, rfl⟩
    · have t1 := idS_beq hj (show k < 9 by omega) e
      go_wp2
      go_roundw
      case rel => exact ⟨k + 1, by omega, by go_num, trivial⟩
      case measure => simp [intOf]; omega
end Go.Proofs.Ybulkcstq
