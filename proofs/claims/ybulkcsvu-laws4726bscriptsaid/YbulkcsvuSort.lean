/-
  OUR OWN. 'slices.Sort' at uint64 (function 19).
-/
import Derived.Test.YbulkcsvuPdq
namespace Go.Proofs.Ybulkcsvu
open Go.RowKit

set_option maxRecDepth 100000 in
set_option maxHeartbeats 1000000 in
theorem sort_walk (B blk n cap : Nat) (d : Array Int) (sp : List Value) (w wr : World) (hS : SR B w wr blk d sp) (hn : d.size = n) (hn5 : n ≤ 5000) :
    Calls Yba.prog 19 #[.slice (some ⟨blk, 0, none⟩) n cap] wr fun e w' => e = .returned (.tuple #[]) ∧ ∃ d', d'.size = n ∧ d'.toList = d.toList.mergeSort (fun x y => decide (x ≤ y)) ∧ SR B w w' blk d' sp := by
  have HB := hide (bits_Len n wr (by omega) (by omega))
  rw [show ((n : Nat) : Int).toNat = n from rfl, bitLen_small n hn5] at HB
  have hk := bitsLen_small n hn5
  have hs : (Sort.pdq lt d 0 n (Sort.bitsLen n) true true).toList = d.toList.mergeSort (fun x y => decide (x ≤ y)) := by
    have h := Sort.sortInt d.toList
    rw [Sort.sort, show d.toList.toArray = d by simp, hn] at h
    exact h
  obtain ⟨k, hk2⟩ : ∃ k, k = Sort.bitsLen n := ⟨_, rfl⟩
  rw [← hk2] at HB hk hs
  have C := hide (pdq_walk B blk n cap sp w hn5 n 0 n k d wr (by omega) hS hn (by omega) (by omega) (by omega))
  have HH := hide hs
  clear hk2 hs
  go_enter Yba.func19, Yba.ntmps19
  go_wp2_with fail
  refine HB.out.mono ?_
  rintro e w' ⟨rfl, hww⟩
  obtain rfl : wr = w' := hww.symm
  go_wp2_with fail
  refine C.out.mono ?_
  rintro e w1 ⟨rfl, hS1, hz⟩
  go_wp2
  go_end0
  exact ⟨rfl, _, hz, HH.out, hS1⟩

set_option maxRecDepth 100000 in
set_option maxHeartbeats 1000000 in
theorem ins_none (a : Option Addr) (c : Nat) (w : World) : Calls Yba.prog 25 #[.slice a 0 c, .int .i64 0, .int .i64 0] w fun e w' => e = .returned (.tuple #[]) ∧ w' = w := by
  go_enter Yba.func25, Yba.ntmps25
  go_wp2
  go_loopw [6] (fun i wr => i = .int .i64 1 ∧ wr = w) (fun _ _ => 0)
  case atStart => exact ⟨rfl, rfl⟩
  case round =>
    obtain ⟨rfl, rfl⟩ := hrel
    go_wp2
    go_end0
    exact ⟨rfl, rfl⟩
set_option maxRecDepth 100000 in
set_option maxHeartbeats 1000000 in
theorem pdq_none (a : Option Addr) (c : Nat) (w : World) : Calls Yba.prog 22 #[.slice a 0 c, .int .i64 0, .int .i64 0, .int .i64 0] w fun e w' => e = .returned (.tuple #[]) ∧ w' = w := by
  have C := hide fun w => ins_none a c w
  go_enter Yba.func22, Yba.ntmps22
  go_wp2
  go_loopw [1, 2, 3, 8, 9] (fun va vb vl v8 v9 wr => va = .int .i64 0 ∧ vb = .int .i64 0 ∧ vl = .int .i64 0 ∧ v8 = .bool true ∧ v9 = .bool true ∧ wr = w) (fun _ _ _ _ _ _ => 0)
  case atStart => exact ⟨rfl, rfl, rfl, rfl, rfl, rfl⟩
  case round =>
    obtain ⟨rfl, rfl, rfl, rfl, rfl, rfl⟩ := hrel
    go_wp2_with fail
    refine (C.out _).mono ?_
    rintro e w1 ⟨rfl, rfl⟩
    go_wp2
    refine bodyPost_ret (results_none (by rfl) _ _ _) rfl ?_
    exact ⟨rfl, rfl⟩
set_option maxRecDepth 100000 in
set_option maxHeartbeats 1000000 in
theorem sort_none (a : Option Addr) (c : Nat) (w : World) : Calls Yba.prog 19 #[.slice a 0 c] w fun e w' => e = .returned (.tuple #[]) ∧ w' = w := by
  have HB : Hid (Calls Yba.prog 23 #[.int .u64 0] w fun e w' => e = .returned (.int .i64 0) ∧ w' = w) := bits_Len 0 w (by omega) (by omega)
  have C := hide fun w => pdq_none a c w
  go_enter Yba.func19, Yba.ntmps19
  go_wp2_with fail
  refine HB.out.mono ?_
  rintro e w' ⟨rfl, hww⟩
  obtain rfl : w = w' := hww.symm
  go_wp2_with fail
  refine (C.out _).mono ?_
  rintro e w1 ⟨rfl, rfl⟩
  go_wp2
  go_end0
  exact ⟨rfl, rfl⟩
end Go.Proofs.Ybulkcsvu
