/-
  OUR OWN. 'zzs4725afloor' (function 6), 'bits.Mul64' (function 8) where it calls it. The 27 cases were written by a small program of ours.
-/
import Derived.Test.YbulkcsvgBack
namespace Go.Proofs.Ybulkcsvg
open Go.RowKit

def p3 (k : Nat) : Int := 3 ^ k
theorem p3_step : ∀ i, i < 26 → IntKind.u64.wrap (p3 i * 3) = p3 (i + 1) := by decide +kernel
theorem ret_pair {a b c d : Int} (h1 : a = c) (h2 : b = d) : Ending.returned (.tuple #[.int .u64 a, .int .u64 b]) = .returned (.tuple #[.int .u64 c, .int .u64 d]) := by rw [h1, h2]
theorem ret_int {k : IntKind} {a b : Int} (h : a = b) : Ending.returned (.int k a) = .returned (.int k b) := by rw [h]

theorem mul64_11 (w : World) : Calls Yba.prog 8 #[.int .u64 9765625, .int .u64 (p3 11)] w fun e w' => e = .returned (.tuple #[.int .u64 0, .int .u64 1729951171875]) ∧ w' = w := by
  go_enter Yba.func8, Yba.ntmps8
  go_wp2
  go_ret2
  exact ⟨ret_pair (by decide +kernel) (by decide +kernel), rfl⟩

theorem mul64_12 (w : World) : Calls Yba.prog 8 #[.int .u64 9765625, .int .u64 (p3 12)] w fun e w' => e = .returned (.tuple #[.int .u64 0, .int .u64 5189853515625]) ∧ w' = w := by
  go_enter Yba.func8, Yba.ntmps8
  go_wp2
  go_ret2
  exact ⟨ret_pair (by decide +kernel) (by decide +kernel), rfl⟩

theorem mul64_13 (w : World) : Calls Yba.prog 8 #[.int .u64 9765625, .int .u64 (p3 13)] w fun e w' => e = .returned (.tuple #[.int .u64 0, .int .u64 15569560546875]) ∧ w' = w := by
  go_enter Yba.func8, Yba.ntmps8
  go_wp2
  go_ret2
  exact ⟨ret_pair (by decide +kernel) (by decide +kernel), rfl⟩

theorem mul64_14 (w : World) : Calls Yba.prog 8 #[.int .u64 9765625, .int .u64 (p3 14)] w fun e w' => e = .returned (.tuple #[.int .u64 0, .int .u64 46708681640625]) ∧ w' = w := by
  go_enter Yba.func8, Yba.ntmps8
  go_wp2
  go_ret2
  exact ⟨ret_pair (by decide +kernel) (by decide +kernel), rfl⟩

theorem mul64_15 (w : World) : Calls Yba.prog 8 #[.int .u64 9765625, .int .u64 (p3 15)] w fun e w' => e = .returned (.tuple #[.int .u64 0, .int .u64 140126044921875]) ∧ w' = w := by
  go_enter Yba.func8, Yba.ntmps8
  go_wp2
  go_ret2
  exact ⟨ret_pair (by decide +kernel) (by decide +kernel), rfl⟩

theorem mul64_16 (w : World) : Calls Yba.prog 8 #[.int .u64 9765625, .int .u64 (p3 16)] w fun e w' => e = .returned (.tuple #[.int .u64 0, .int .u64 420378134765625]) ∧ w' = w := by
  go_enter Yba.func8, Yba.ntmps8
  go_wp2
  go_ret2
  exact ⟨ret_pair (by decide +kernel) (by decide +kernel), rfl⟩

theorem mul64_17 (w : World) : Calls Yba.prog 8 #[.int .u64 9765625, .int .u64 (p3 17)] w fun e w' => e = .returned (.tuple #[.int .u64 0, .int .u64 1261134404296875]) ∧ w' = w := by
  go_enter Yba.func8, Yba.ntmps8
  go_wp2
  go_ret2
  exact ⟨ret_pair (by decide +kernel) (by decide +kernel), rfl⟩

theorem mul64_18 (w : World) : Calls Yba.prog 8 #[.int .u64 9765625, .int .u64 (p3 18)] w fun e w' => e = .returned (.tuple #[.int .u64 0, .int .u64 3783403212890625]) ∧ w' = w := by
  go_enter Yba.func8, Yba.ntmps8
  go_wp2
  go_ret2
  exact ⟨ret_pair (by decide +kernel) (by decide +kernel), rfl⟩

theorem mul64_19 (w : World) : Calls Yba.prog 8 #[.int .u64 9765625, .int .u64 (p3 19)] w fun e w' => e = .returned (.tuple #[.int .u64 0, .int .u64 11350209638671875]) ∧ w' = w := by
  go_enter Yba.func8, Yba.ntmps8
  go_wp2
  go_ret2
  exact ⟨ret_pair (by decide +kernel) (by decide +kernel), rfl⟩

theorem mul64_20 (w : World) : Calls Yba.prog 8 #[.int .u64 9765625, .int .u64 (p3 20)] w fun e w' => e = .returned (.tuple #[.int .u64 0, .int .u64 34050628916015625]) ∧ w' = w := by
  go_enter Yba.func8, Yba.ntmps8
  go_wp2
  go_ret2
  exact ⟨ret_pair (by decide +kernel) (by decide +kernel), rfl⟩

theorem mul64_21 (w : World) : Calls Yba.prog 8 #[.int .u64 9765625, .int .u64 (p3 21)] w fun e w' => e = .returned (.tuple #[.int .u64 0, .int .u64 102151886748046875]) ∧ w' = w := by
  go_enter Yba.func8, Yba.ntmps8
  go_wp2
  go_ret2
  exact ⟨ret_pair (by decide +kernel) (by decide +kernel), rfl⟩

theorem mul64_22 (w : World) : Calls Yba.prog 8 #[.int .u64 9765625, .int .u64 (p3 22)] w fun e w' => e = .returned (.tuple #[.int .u64 0, .int .u64 306455660244140625]) ∧ w' = w := by
  go_enter Yba.func8, Yba.ntmps8
  go_wp2
  go_ret2
  exact ⟨ret_pair (by decide +kernel) (by decide +kernel), rfl⟩

theorem mul64_23 (w : World) : Calls Yba.prog 8 #[.int .u64 9765625, .int .u64 (p3 23)] w fun e w' => e = .returned (.tuple #[.int .u64 0, .int .u64 919366980732421875]) ∧ w' = w := by
  go_enter Yba.func8, Yba.ntmps8
  go_wp2
  go_ret2
  exact ⟨ret_pair (by decide +kernel) (by decide +kernel), rfl⟩

theorem mul64_24 (w : World) : Calls Yba.prog 8 #[.int .u64 9765625, .int .u64 (p3 24)] w fun e w' => e = .returned (.tuple #[.int .u64 0, .int .u64 2758100942197265625]) ∧ w' = w := by
  go_enter Yba.func8, Yba.ntmps8
  go_wp2
  go_ret2
  exact ⟨ret_pair (by decide +kernel) (by decide +kernel), rfl⟩

theorem mul64_25 (w : World) : Calls Yba.prog 8 #[.int .u64 9765625, .int .u64 (p3 25)] w fun e w' => e = .returned (.tuple #[.int .u64 0, .int .u64 8274302826591796875]) ∧ w' = w := by
  go_enter Yba.func8, Yba.ntmps8
  go_wp2
  go_ret2
  exact ⟨ret_pair (by decide +kernel) (by decide +kernel), rfl⟩

theorem mul64_26 (w : World) : Calls Yba.prog 8 #[.int .u64 9765625, .int .u64 (p3 26)] w fun e w' => e = .returned (.tuple #[.int .u64 1, .int .u64 6376164406065839009]) ∧ w' = w := by
  go_enter Yba.func8, Yba.ntmps8
  go_wp2
  go_ret2
  exact ⟨ret_pair (by decide +kernel) (by decide +kernel), rfl⟩

theorem floor_0 (w : World) : Calls Yba.prog 6 #[.int .i64 0] w fun e w' => e = .returned (.int .i64 10000000000) ∧ w' = w := by
  go_enter Yba.func6, Yba.ntmps6
  go_wp2
  go_loop [3, 4] (fun p i => ∃ m : Nat, m ≤ 0 ∧ p = .int .u64 (p3 m) ∧ i = .int .i64 m) (fun _ i => 0 - (intOf i).toNat)
  case atStart => exact ⟨0, Nat.zero_le _, rfl, rfl⟩
  case round =>
    obtain ⟨m, hm, rfl, rfl⟩ := hrel
    obtain rfl : m = 0 := by omega
    go_wp2
    go_ret
    exact ⟨ret_int (by decide +kernel), rfl⟩

theorem floor_1 (w : World) : Calls Yba.prog 6 #[.int .i64 1] w fun e w' => e = .returned (.int .i64 15000000000) ∧ w' = w := by
  go_enter Yba.func6, Yba.ntmps6
  go_wp2
  go_loop [3, 4] (fun p i => ∃ m : Nat, m ≤ 1 ∧ p = .int .u64 (p3 m) ∧ i = .int .i64 m) (fun _ i => 1 - (intOf i).toNat)
  case atStart => exact ⟨0, Nat.zero_le _, rfl, rfl⟩
  case round =>
    obtain ⟨m, hm, rfl, rfl⟩ := hrel
    by_cases hlt : m < 1
    · have HS : Hid _ := p3_step m (by omega)
      go_wp2
      go_round
      case rel => exact ⟨m + 1, by omega, by rw [← HS.out], by go_num⟩
      case measure => simp [intOf]; omega
    · obtain rfl : m = 1 := by omega
      go_wp2
      go_ret
      exact ⟨ret_int (by decide +kernel), rfl⟩

theorem floor_2 (w : World) : Calls Yba.prog 6 #[.int .i64 2] w fun e w' => e = .returned (.int .i64 22500000000) ∧ w' = w := by
  go_enter Yba.func6, Yba.ntmps6
  go_wp2
  go_loop [3, 4] (fun p i => ∃ m : Nat, m ≤ 2 ∧ p = .int .u64 (p3 m) ∧ i = .int .i64 m) (fun _ i => 2 - (intOf i).toNat)
  case atStart => exact ⟨0, Nat.zero_le _, rfl, rfl⟩
  case round =>
    obtain ⟨m, hm, rfl, rfl⟩ := hrel
    by_cases hlt : m < 2
    · have HS : Hid _ := p3_step m (by omega)
      go_wp2
      go_round
      case rel => exact ⟨m + 1, by omega, by rw [← HS.out], by go_num⟩
      case measure => simp [intOf]; omega
    · obtain rfl : m = 2 := by omega
      go_wp2
      go_ret
      exact ⟨ret_int (by decide +kernel), rfl⟩

theorem floor_3 (w : World) : Calls Yba.prog 6 #[.int .i64 3] w fun e w' => e = .returned (.int .i64 33750000000) ∧ w' = w := by
  go_enter Yba.func6, Yba.ntmps6
  go_wp2
  go_loop [3, 4] (fun p i => ∃ m : Nat, m ≤ 3 ∧ p = .int .u64 (p3 m) ∧ i = .int .i64 m) (fun _ i => 3 - (intOf i).toNat)
  case atStart => exact ⟨0, Nat.zero_le _, rfl, rfl⟩
  case round =>
    obtain ⟨m, hm, rfl, rfl⟩ := hrel
    by_cases hlt : m < 3
    · have HS : Hid _ := p3_step m (by omega)
      go_wp2
      go_round
      case rel => exact ⟨m + 1, by omega, by rw [← HS.out], by go_num⟩
      case measure => simp [intOf]; omega
    · obtain rfl : m = 3 := by omega
      go_wp2
      go_ret
      exact ⟨ret_int (by decide +kernel), rfl⟩

theorem floor_4 (w : World) : Calls Yba.prog 6 #[.int .i64 4] w fun e w' => e = .returned (.int .i64 50625000000) ∧ w' = w := by
  go_enter Yba.func6, Yba.ntmps6
  go_wp2
  go_loop [3, 4] (fun p i => ∃ m : Nat, m ≤ 4 ∧ p = .int .u64 (p3 m) ∧ i = .int .i64 m) (fun _ i => 4 - (intOf i).toNat)
  case atStart => exact ⟨0, Nat.zero_le _, rfl, rfl⟩
  case round =>
    obtain ⟨m, hm, rfl, rfl⟩ := hrel
    by_cases hlt : m < 4
    · have HS : Hid _ := p3_step m (by omega)
      go_wp2
      go_round
      case rel => exact ⟨m + 1, by omega, by rw [← HS.out], by go_num⟩
      case measure => simp [intOf]; omega
    · obtain rfl : m = 4 := by omega
      go_wp2
      go_ret
      exact ⟨ret_int (by decide +kernel), rfl⟩

theorem floor_5 (w : World) : Calls Yba.prog 6 #[.int .i64 5] w fun e w' => e = .returned (.int .i64 75937500000) ∧ w' = w := by
  go_enter Yba.func6, Yba.ntmps6
  go_wp2
  go_loop [3, 4] (fun p i => ∃ m : Nat, m ≤ 5 ∧ p = .int .u64 (p3 m) ∧ i = .int .i64 m) (fun _ i => 5 - (intOf i).toNat)
  case atStart => exact ⟨0, Nat.zero_le _, rfl, rfl⟩
  case round =>
    obtain ⟨m, hm, rfl, rfl⟩ := hrel
    by_cases hlt : m < 5
    · have HS : Hid _ := p3_step m (by omega)
      go_wp2
      go_round
      case rel => exact ⟨m + 1, by omega, by rw [← HS.out], by go_num⟩
      case measure => simp [intOf]; omega
    · obtain rfl : m = 5 := by omega
      go_wp2
      go_ret
      exact ⟨ret_int (by decide +kernel), rfl⟩

theorem floor_6 (w : World) : Calls Yba.prog 6 #[.int .i64 6] w fun e w' => e = .returned (.int .i64 113906250000) ∧ w' = w := by
  go_enter Yba.func6, Yba.ntmps6
  go_wp2
  go_loop [3, 4] (fun p i => ∃ m : Nat, m ≤ 6 ∧ p = .int .u64 (p3 m) ∧ i = .int .i64 m) (fun _ i => 6 - (intOf i).toNat)
  case atStart => exact ⟨0, Nat.zero_le _, rfl, rfl⟩
  case round =>
    obtain ⟨m, hm, rfl, rfl⟩ := hrel
    by_cases hlt : m < 6
    · have HS : Hid _ := p3_step m (by omega)
      go_wp2
      go_round
      case rel => exact ⟨m + 1, by omega, by rw [← HS.out], by go_num⟩
      case measure => simp [intOf]; omega
    · obtain rfl : m = 6 := by omega
      go_wp2
      go_ret
      exact ⟨ret_int (by decide +kernel), rfl⟩

theorem floor_7 (w : World) : Calls Yba.prog 6 #[.int .i64 7] w fun e w' => e = .returned (.int .i64 170859375000) ∧ w' = w := by
  go_enter Yba.func6, Yba.ntmps6
  go_wp2
  go_loop [3, 4] (fun p i => ∃ m : Nat, m ≤ 7 ∧ p = .int .u64 (p3 m) ∧ i = .int .i64 m) (fun _ i => 7 - (intOf i).toNat)
  case atStart => exact ⟨0, Nat.zero_le _, rfl, rfl⟩
  case round =>
    obtain ⟨m, hm, rfl, rfl⟩ := hrel
    by_cases hlt : m < 7
    · have HS : Hid _ := p3_step m (by omega)
      go_wp2
      go_round
      case rel => exact ⟨m + 1, by omega, by rw [← HS.out], by go_num⟩
      case measure => simp [intOf]; omega
    · obtain rfl : m = 7 := by omega
      go_wp2
      go_ret
      exact ⟨ret_int (by decide +kernel), rfl⟩

theorem floor_8 (w : World) : Calls Yba.prog 6 #[.int .i64 8] w fun e w' => e = .returned (.int .i64 256289062500) ∧ w' = w := by
  go_enter Yba.func6, Yba.ntmps6
  go_wp2
  go_loop [3, 4] (fun p i => ∃ m : Nat, m ≤ 8 ∧ p = .int .u64 (p3 m) ∧ i = .int .i64 m) (fun _ i => 8 - (intOf i).toNat)
  case atStart => exact ⟨0, Nat.zero_le _, rfl, rfl⟩
  case round =>
    obtain ⟨m, hm, rfl, rfl⟩ := hrel
    by_cases hlt : m < 8
    · have HS : Hid _ := p3_step m (by omega)
      go_wp2
      go_round
      case rel => exact ⟨m + 1, by omega, by rw [← HS.out], by go_num⟩
      case measure => simp [intOf]; omega
    · obtain rfl : m = 8 := by omega
      go_wp2
      go_ret
      exact ⟨ret_int (by decide +kernel), rfl⟩

theorem floor_9 (w : World) : Calls Yba.prog 6 #[.int .i64 9] w fun e w' => e = .returned (.int .i64 384433593750) ∧ w' = w := by
  go_enter Yba.func6, Yba.ntmps6
  go_wp2
  go_loop [3, 4] (fun p i => ∃ m : Nat, m ≤ 9 ∧ p = .int .u64 (p3 m) ∧ i = .int .i64 m) (fun _ i => 9 - (intOf i).toNat)
  case atStart => exact ⟨0, Nat.zero_le _, rfl, rfl⟩
  case round =>
    obtain ⟨m, hm, rfl, rfl⟩ := hrel
    by_cases hlt : m < 9
    · have HS : Hid _ := p3_step m (by omega)
      go_wp2
      go_round
      case rel => exact ⟨m + 1, by omega, by rw [← HS.out], by go_num⟩
      case measure => simp [intOf]; omega
    · obtain rfl : m = 9 := by omega
      go_wp2
      go_ret
      exact ⟨ret_int (by decide +kernel), rfl⟩

theorem floor_10 (w : World) : Calls Yba.prog 6 #[.int .i64 10] w fun e w' => e = .returned (.int .i64 576650390625) ∧ w' = w := by
  go_enter Yba.func6, Yba.ntmps6
  go_wp2
  go_loop [3, 4] (fun p i => ∃ m : Nat, m ≤ 10 ∧ p = .int .u64 (p3 m) ∧ i = .int .i64 m) (fun _ i => 10 - (intOf i).toNat)
  case atStart => exact ⟨0, Nat.zero_le _, rfl, rfl⟩
  case round =>
    obtain ⟨m, hm, rfl, rfl⟩ := hrel
    by_cases hlt : m < 10
    · have HS : Hid _ := p3_step m (by omega)
      go_wp2
      go_round
      case rel => exact ⟨m + 1, by omega, by rw [← HS.out], by go_num⟩
      case measure => simp [intOf]; omega
    · obtain rfl : m = 10 := by omega
      go_wp2
      go_ret
      exact ⟨ret_int (by decide +kernel), rfl⟩

theorem floor_11 (w : World) : Calls Yba.prog 6 #[.int .i64 11] w fun e w' => e = .returned (.int .i64 864975585937) ∧ w' = w := by
  go_enter Yba.func6, Yba.ntmps6
  go_wp2
  go_loop [3, 4] (fun p i => ∃ m : Nat, m ≤ 11 ∧ p = .int .u64 (p3 m) ∧ i = .int .i64 m) (fun _ i => 11 - (intOf i).toNat)
  case atStart => exact ⟨0, Nat.zero_le _, rfl, rfl⟩
  case round =>
    obtain ⟨m, hm, rfl, rfl⟩ := hrel
    by_cases hlt : m < 11
    · have HS : Hid _ := p3_step m (by omega)
      go_wp2
      go_round
      case rel => exact ⟨m + 1, by omega, by rw [← HS.out], by go_num⟩
      case measure => simp [intOf]; omega
    · obtain rfl : m = 11 := by omega
      go_wp2_with (go_at_call 8; refine (mul64_11 _).mono ?_; rintro e w' ⟨rfl, rfl⟩)
      go_ret
      exact ⟨ret_int (by decide +kernel), rfl⟩

theorem floor_12 (w : World) : Calls Yba.prog 6 #[.int .i64 12] w fun e w' => e = .returned (.int .i64 1297463378906) ∧ w' = w := by
  go_enter Yba.func6, Yba.ntmps6
  go_wp2
  go_loop [3, 4] (fun p i => ∃ m : Nat, m ≤ 12 ∧ p = .int .u64 (p3 m) ∧ i = .int .i64 m) (fun _ i => 12 - (intOf i).toNat)
  case atStart => exact ⟨0, Nat.zero_le _, rfl, rfl⟩
  case round =>
    obtain ⟨m, hm, rfl, rfl⟩ := hrel
    by_cases hlt : m < 12
    · have HS : Hid _ := p3_step m (by omega)
      go_wp2
      go_round
      case rel => exact ⟨m + 1, by omega, by rw [← HS.out], by go_num⟩
      case measure => simp [intOf]; omega
    · obtain rfl : m = 12 := by omega
      go_wp2_with (go_at_call 8; refine (mul64_12 _).mono ?_; rintro e w' ⟨rfl, rfl⟩)
      go_ret
      exact ⟨ret_int (by decide +kernel), rfl⟩

theorem floor_13 (w : World) : Calls Yba.prog 6 #[.int .i64 13] w fun e w' => e = .returned (.int .i64 1946195068359) ∧ w' = w := by
  go_enter Yba.func6, Yba.ntmps6
  go_wp2
  go_loop [3, 4] (fun p i => ∃ m : Nat, m ≤ 13 ∧ p = .int .u64 (p3 m) ∧ i = .int .i64 m) (fun _ i => 13 - (intOf i).toNat)
  case atStart => exact ⟨0, Nat.zero_le _, rfl, rfl⟩
  case round =>
    obtain ⟨m, hm, rfl, rfl⟩ := hrel
    by_cases hlt : m < 13
    · have HS : Hid _ := p3_step m (by omega)
      go_wp2
      go_round
      case rel => exact ⟨m + 1, by omega, by rw [← HS.out], by go_num⟩
      case measure => simp [intOf]; omega
    · obtain rfl : m = 13 := by omega
      go_wp2_with (go_at_call 8; refine (mul64_13 _).mono ?_; rintro e w' ⟨rfl, rfl⟩)
      go_ret
      exact ⟨ret_int (by decide +kernel), rfl⟩

theorem floor_14 (w : World) : Calls Yba.prog 6 #[.int .i64 14] w fun e w' => e = .returned (.int .i64 2919292602539) ∧ w' = w := by
  go_enter Yba.func6, Yba.ntmps6
  go_wp2
  go_loop [3, 4] (fun p i => ∃ m : Nat, m ≤ 14 ∧ p = .int .u64 (p3 m) ∧ i = .int .i64 m) (fun _ i => 14 - (intOf i).toNat)
  case atStart => exact ⟨0, Nat.zero_le _, rfl, rfl⟩
  case round =>
    obtain ⟨m, hm, rfl, rfl⟩ := hrel
    by_cases hlt : m < 14
    · have HS : Hid _ := p3_step m (by omega)
      go_wp2
      go_round
      case rel => exact ⟨m + 1, by omega, by rw [← HS.out], by go_num⟩
      case measure => simp [intOf]; omega
    · obtain rfl : m = 14 := by omega
      go_wp2_with (go_at_call 8; refine (mul64_14 _).mono ?_; rintro e w' ⟨rfl, rfl⟩)
      go_ret
      exact ⟨ret_int (by decide +kernel), rfl⟩

theorem floor_15 (w : World) : Calls Yba.prog 6 #[.int .i64 15] w fun e w' => e = .returned (.int .i64 4378938903808) ∧ w' = w := by
  go_enter Yba.func6, Yba.ntmps6
  go_wp2
  go_loop [3, 4] (fun p i => ∃ m : Nat, m ≤ 15 ∧ p = .int .u64 (p3 m) ∧ i = .int .i64 m) (fun _ i => 15 - (intOf i).toNat)
  case atStart => exact ⟨0, Nat.zero_le _, rfl, rfl⟩
  case round =>
    obtain ⟨m, hm, rfl, rfl⟩ := hrel
    by_cases hlt : m < 15
    · have HS : Hid _ := p3_step m (by omega)
      go_wp2
      go_round
      case rel => exact ⟨m + 1, by omega, by rw [← HS.out], by go_num⟩
      case measure => simp [intOf]; omega
    · obtain rfl : m = 15 := by omega
      go_wp2_with (go_at_call 8; refine (mul64_15 _).mono ?_; rintro e w' ⟨rfl, rfl⟩)
      go_ret
      exact ⟨ret_int (by decide +kernel), rfl⟩

theorem floor_16 (w : World) : Calls Yba.prog 6 #[.int .i64 16] w fun e w' => e = .returned (.int .i64 6568408355712) ∧ w' = w := by
  go_enter Yba.func6, Yba.ntmps6
  go_wp2
  go_loop [3, 4] (fun p i => ∃ m : Nat, m ≤ 16 ∧ p = .int .u64 (p3 m) ∧ i = .int .i64 m) (fun _ i => 16 - (intOf i).toNat)
  case atStart => exact ⟨0, Nat.zero_le _, rfl, rfl⟩
  case round =>
    obtain ⟨m, hm, rfl, rfl⟩ := hrel
    by_cases hlt : m < 16
    · have HS : Hid _ := p3_step m (by omega)
      go_wp2
      go_round
      case rel => exact ⟨m + 1, by omega, by rw [← HS.out], by go_num⟩
      case measure => simp [intOf]; omega
    · obtain rfl : m = 16 := by omega
      go_wp2_with (go_at_call 8; refine (mul64_16 _).mono ?_; rintro e w' ⟨rfl, rfl⟩)
      go_ret
      exact ⟨ret_int (by decide +kernel), rfl⟩

theorem floor_17 (w : World) : Calls Yba.prog 6 #[.int .i64 17] w fun e w' => e = .returned (.int .i64 9852612533569) ∧ w' = w := by
  go_enter Yba.func6, Yba.ntmps6
  go_wp2
  go_loop [3, 4] (fun p i => ∃ m : Nat, m ≤ 17 ∧ p = .int .u64 (p3 m) ∧ i = .int .i64 m) (fun _ i => 17 - (intOf i).toNat)
  case atStart => exact ⟨0, Nat.zero_le _, rfl, rfl⟩
  case round =>
    obtain ⟨m, hm, rfl, rfl⟩ := hrel
    by_cases hlt : m < 17
    · have HS : Hid _ := p3_step m (by omega)
      go_wp2
      go_round
      case rel => exact ⟨m + 1, by omega, by rw [← HS.out], by go_num⟩
      case measure => simp [intOf]; omega
    · obtain rfl : m = 17 := by omega
      go_wp2_with (go_at_call 8; refine (mul64_17 _).mono ?_; rintro e w' ⟨rfl, rfl⟩)
      go_ret
      exact ⟨ret_int (by decide +kernel), rfl⟩

theorem floor_18 (w : World) : Calls Yba.prog 6 #[.int .i64 18] w fun e w' => e = .returned (.int .i64 14778918800354) ∧ w' = w := by
  go_enter Yba.func6, Yba.ntmps6
  go_wp2
  go_loop [3, 4] (fun p i => ∃ m : Nat, m ≤ 18 ∧ p = .int .u64 (p3 m) ∧ i = .int .i64 m) (fun _ i => 18 - (intOf i).toNat)
  case atStart => exact ⟨0, Nat.zero_le _, rfl, rfl⟩
  case round =>
    obtain ⟨m, hm, rfl, rfl⟩ := hrel
    by_cases hlt : m < 18
    · have HS : Hid _ := p3_step m (by omega)
      go_wp2
      go_round
      case rel => exact ⟨m + 1, by omega, by rw [← HS.out], by go_num⟩
      case measure => simp [intOf]; omega
    · obtain rfl : m = 18 := by omega
      go_wp2_with (go_at_call 8; refine (mul64_18 _).mono ?_; rintro e w' ⟨rfl, rfl⟩)
      go_ret
      exact ⟨ret_int (by decide +kernel), rfl⟩

theorem floor_19 (w : World) : Calls Yba.prog 6 #[.int .i64 19] w fun e w' => e = .returned (.int .i64 22168378200531) ∧ w' = w := by
  go_enter Yba.func6, Yba.ntmps6
  go_wp2
  go_loop [3, 4] (fun p i => ∃ m : Nat, m ≤ 19 ∧ p = .int .u64 (p3 m) ∧ i = .int .i64 m) (fun _ i => 19 - (intOf i).toNat)
  case atStart => exact ⟨0, Nat.zero_le _, rfl, rfl⟩
  case round =>
    obtain ⟨m, hm, rfl, rfl⟩ := hrel
    by_cases hlt : m < 19
    · have HS : Hid _ := p3_step m (by omega)
      go_wp2
      go_round
      case rel => exact ⟨m + 1, by omega, by rw [← HS.out], by go_num⟩
      case measure => simp [intOf]; omega
    · obtain rfl : m = 19 := by omega
      go_wp2_with (go_at_call 8; refine (mul64_19 _).mono ?_; rintro e w' ⟨rfl, rfl⟩)
      go_ret
      exact ⟨ret_int (by decide +kernel), rfl⟩

theorem floor_20 (w : World) : Calls Yba.prog 6 #[.int .i64 20] w fun e w' => e = .returned (.int .i64 33252567300796) ∧ w' = w := by
  go_enter Yba.func6, Yba.ntmps6
  go_wp2
  go_loop [3, 4] (fun p i => ∃ m : Nat, m ≤ 20 ∧ p = .int .u64 (p3 m) ∧ i = .int .i64 m) (fun _ i => 20 - (intOf i).toNat)
  case atStart => exact ⟨0, Nat.zero_le _, rfl, rfl⟩
  case round =>
    obtain ⟨m, hm, rfl, rfl⟩ := hrel
    by_cases hlt : m < 20
    · have HS : Hid _ := p3_step m (by omega)
      go_wp2
      go_round
      case rel => exact ⟨m + 1, by omega, by rw [← HS.out], by go_num⟩
      case measure => simp [intOf]; omega
    · obtain rfl : m = 20 := by omega
      go_wp2_with (go_at_call 8; refine (mul64_20 _).mono ?_; rintro e w' ⟨rfl, rfl⟩)
      go_ret
      exact ⟨ret_int (by decide +kernel), rfl⟩

theorem floor_21 (w : World) : Calls Yba.prog 6 #[.int .i64 21] w fun e w' => e = .returned (.int .i64 49878850951194) ∧ w' = w := by
  go_enter Yba.func6, Yba.ntmps6
  go_wp2
  go_loop [3, 4] (fun p i => ∃ m : Nat, m ≤ 21 ∧ p = .int .u64 (p3 m) ∧ i = .int .i64 m) (fun _ i => 21 - (intOf i).toNat)
  case atStart => exact ⟨0, Nat.zero_le _, rfl, rfl⟩
  case round =>
    obtain ⟨m, hm, rfl, rfl⟩ := hrel
    by_cases hlt : m < 21
    · have HS : Hid _ := p3_step m (by omega)
      go_wp2
      go_round
      case rel => exact ⟨m + 1, by omega, by rw [← HS.out], by go_num⟩
      case measure => simp [intOf]; omega
    · obtain rfl : m = 21 := by omega
      go_wp2_with (go_at_call 8; refine (mul64_21 _).mono ?_; rintro e w' ⟨rfl, rfl⟩)
      go_ret
      exact ⟨ret_int (by decide +kernel), rfl⟩

theorem floor_22 (w : World) : Calls Yba.prog 6 #[.int .i64 22] w fun e w' => e = .returned (.int .i64 74818276426792) ∧ w' = w := by
  go_enter Yba.func6, Yba.ntmps6
  go_wp2
  go_loop [3, 4] (fun p i => ∃ m : Nat, m ≤ 22 ∧ p = .int .u64 (p3 m) ∧ i = .int .i64 m) (fun _ i => 22 - (intOf i).toNat)
  case atStart => exact ⟨0, Nat.zero_le _, rfl, rfl⟩
  case round =>
    obtain ⟨m, hm, rfl, rfl⟩ := hrel
    by_cases hlt : m < 22
    · have HS : Hid _ := p3_step m (by omega)
      go_wp2
      go_round
      case rel => exact ⟨m + 1, by omega, by rw [← HS.out], by go_num⟩
      case measure => simp [intOf]; omega
    · obtain rfl : m = 22 := by omega
      go_wp2_with (go_at_call 8; refine (mul64_22 _).mono ?_; rintro e w' ⟨rfl, rfl⟩)
      go_ret
      exact ⟨ret_int (by decide +kernel), rfl⟩

theorem floor_23 (w : World) : Calls Yba.prog 6 #[.int .i64 23] w fun e w' => e = .returned (.int .i64 112227414640188) ∧ w' = w := by
  go_enter Yba.func6, Yba.ntmps6
  go_wp2
  go_loop [3, 4] (fun p i => ∃ m : Nat, m ≤ 23 ∧ p = .int .u64 (p3 m) ∧ i = .int .i64 m) (fun _ i => 23 - (intOf i).toNat)
  case atStart => exact ⟨0, Nat.zero_le _, rfl, rfl⟩
  case round =>
    obtain ⟨m, hm, rfl, rfl⟩ := hrel
    by_cases hlt : m < 23
    · have HS : Hid _ := p3_step m (by omega)
      go_wp2
      go_round
      case rel => exact ⟨m + 1, by omega, by rw [← HS.out], by go_num⟩
      case measure => simp [intOf]; omega
    · obtain rfl : m = 23 := by omega
      go_wp2_with (go_at_call 8; refine (mul64_23 _).mono ?_; rintro e w' ⟨rfl, rfl⟩)
      go_ret
      exact ⟨ret_int (by decide +kernel), rfl⟩

theorem floor_24 (w : World) : Calls Yba.prog 6 #[.int .i64 24] w fun e w' => e = .returned (.int .i64 168341121960282) ∧ w' = w := by
  go_enter Yba.func6, Yba.ntmps6
  go_wp2
  go_loop [3, 4] (fun p i => ∃ m : Nat, m ≤ 24 ∧ p = .int .u64 (p3 m) ∧ i = .int .i64 m) (fun _ i => 24 - (intOf i).toNat)
  case atStart => exact ⟨0, Nat.zero_le _, rfl, rfl⟩
  case round =>
    obtain ⟨m, hm, rfl, rfl⟩ := hrel
    by_cases hlt : m < 24
    · have HS : Hid _ := p3_step m (by omega)
      go_wp2
      go_round
      case rel => exact ⟨m + 1, by omega, by rw [← HS.out], by go_num⟩
      case measure => simp [intOf]; omega
    · obtain rfl : m = 24 := by omega
      go_wp2_with (go_at_call 8; refine (mul64_24 _).mono ?_; rintro e w' ⟨rfl, rfl⟩)
      go_ret
      exact ⟨ret_int (by decide +kernel), rfl⟩

theorem floor_25 (w : World) : Calls Yba.prog 6 #[.int .i64 25] w fun e w' => e = .returned (.int .i64 252511682940423) ∧ w' = w := by
  go_enter Yba.func6, Yba.ntmps6
  go_wp2
  go_loop [3, 4] (fun p i => ∃ m : Nat, m ≤ 25 ∧ p = .int .u64 (p3 m) ∧ i = .int .i64 m) (fun _ i => 25 - (intOf i).toNat)
  case atStart => exact ⟨0, Nat.zero_le _, rfl, rfl⟩
  case round =>
    obtain ⟨m, hm, rfl, rfl⟩ := hrel
    by_cases hlt : m < 25
    · have HS : Hid _ := p3_step m (by omega)
      go_wp2
      go_round
      case rel => exact ⟨m + 1, by omega, by rw [← HS.out], by go_num⟩
      case measure => simp [intOf]; omega
    · obtain rfl : m = 25 := by omega
      go_wp2_with (go_at_call 8; refine (mul64_25 _).mono ?_; rintro e w' ⟨rfl, rfl⟩)
      go_ret
      exact ⟨ret_int (by decide +kernel), rfl⟩

theorem floor_26 (w : World) : Calls Yba.prog 6 #[.int .i64 26] w fun e w' => e = .returned (.int .i64 378767524410635) ∧ w' = w := by
  go_enter Yba.func6, Yba.ntmps6
  go_wp2
  go_loop [3, 4] (fun p i => ∃ m : Nat, m ≤ 26 ∧ p = .int .u64 (p3 m) ∧ i = .int .i64 m) (fun _ i => 26 - (intOf i).toNat)
  case atStart => exact ⟨0, Nat.zero_le _, rfl, rfl⟩
  case round =>
    obtain ⟨m, hm, rfl, rfl⟩ := hrel
    by_cases hlt : m < 26
    · have HS : Hid _ := p3_step m (by omega)
      go_wp2
      go_round
      case rel => exact ⟨m + 1, by omega, by rw [← HS.out], by go_num⟩
      case measure => simp [intOf]; omega
    · obtain rfl : m = 26 := by omega
      go_wp2_with (go_at_call 8; refine (mul64_26 _).mono ?_; rintro e w' ⟨rfl, rfl⟩)
      go_ret
      exact ⟨ret_int (by decide +kernel), rfl⟩
end Go.Proofs.Ybulkcsvg
