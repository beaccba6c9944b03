/-
  'Rows.LawS4725AExactSaid': the frame is the one that the kit's tool wrote; the walks are ours (the 27 cases written by a small program of ours).
-/
import Derived.Test.YbulkcsvgFloor
import Derived.WalkKit
import Derived.ProofKit
import Derived.OpenShut
import Derived.ShutString
namespace Go.Proofs.Ybulkcsvg.lawS4725AExact
open Go.ChangeShapes Go.WideShapes Go.ChangeAt Go.RowKit
open Go.ChangeMaps (open_string shut_string)
set_option linter.unusedVariables false      -- a walk need not use every 'w<i>' (that an integer argument fits its kind)

theorem own : ownKnob Yba.prog.godebug = none := by kernel_rfl

theorem hide {p : Prop} (h : p) : Hid p := h

theorem walk_none (n : Int) (h : n < 1) (w : World) : Calls Yba.prog 3 #[.int .i64 n] w fun e w' => e = .returned (.bool true) ∧ Grown w w' := by
  go_enter Yba.func3, Yba.ntmps3
  go_wp2_with (go_at_call 5; refine (backoff_none _ h _).mono ?_; rintro e w' ⟨rfl, rfl⟩)
  go_ret
  exact ⟨rfl, Grown.refl _⟩

theorem walk_long (n : Int) (h : 28 ≤ n) (hn : n ≤ 9223372036854775807) (w : World) : Calls Yba.prog 3 #[.int .i64 n] w fun e w' => e = .returned (.bool true) ∧ Grown w w' := by
  have hb : Calls Yba.prog 5 #[.int .i64 n] w fun e w' => e = .returned (.int .i64 432000000000000) ∧ w' = w := by
    refine (backoff_any n (by omega) hn w).mono ?_
    rintro e w' ⟨k, hk, h1, rfl, rfl⟩
    obtain rfl : k = 27 := by omega
    exact ⟨rfl, rfl⟩
  have HB := hide hb
  clear hb
  go_enter Yba.func3, Yba.ntmps3
  go_wp2_with (go_at_call 5; refine HB.out.mono ?_; rintro e w' ⟨rfl, rfl⟩)
  go_ret
  exact ⟨rfl, Grown.refl _⟩

theorem walk_1 (w : World) : Calls Yba.prog 3 #[.int .i64 1] w fun e w' => e = .returned (.bool true) ∧ Grown w w' := by
  have hb : Calls Yba.prog 5 #[.int .i64 1] w fun e w' => e = .returned (.int .i64 10000000000) ∧ w' = w := by
    refine (backoff_any 1 (by omega) (by omega) w).mono ?_
    rintro e w' ⟨k, hk, h1, rfl, rfl⟩
    obtain rfl : k = 0 := by omega
    exact ⟨rfl, rfl⟩
  have HB := hide hb
  clear hb
  go_enter Yba.func3, Yba.ntmps3
  go_wp2_with (first | (go_at_call 5; refine HB.out.mono ?_; rintro e w' ⟨rfl, rfl⟩) | (go_at_call 6; refine (floor_0 _).mono ?_; rintro e w' ⟨rfl, rfl⟩))
  go_ret
  exact ⟨rfl, Grown.refl _⟩

theorem walk_2 (w : World) : Calls Yba.prog 3 #[.int .i64 2] w fun e w' => e = .returned (.bool true) ∧ Grown w w' := by
  have hb : Calls Yba.prog 5 #[.int .i64 2] w fun e w' => e = .returned (.int .i64 15000000000) ∧ w' = w := by
    refine (backoff_any 2 (by omega) (by omega) w).mono ?_
    rintro e w' ⟨k, hk, h1, rfl, rfl⟩
    obtain rfl : k = 1 := by omega
    exact ⟨rfl, rfl⟩
  have HB := hide hb
  clear hb
  go_enter Yba.func3, Yba.ntmps3
  go_wp2_with (first | (go_at_call 5; refine HB.out.mono ?_; rintro e w' ⟨rfl, rfl⟩) | (go_at_call 6; refine (floor_1 _).mono ?_; rintro e w' ⟨rfl, rfl⟩))
  go_ret
  exact ⟨rfl, Grown.refl _⟩

theorem walk_3 (w : World) : Calls Yba.prog 3 #[.int .i64 3] w fun e w' => e = .returned (.bool true) ∧ Grown w w' := by
  have hb : Calls Yba.prog 5 #[.int .i64 3] w fun e w' => e = .returned (.int .i64 22500000000) ∧ w' = w := by
    refine (backoff_any 3 (by omega) (by omega) w).mono ?_
    rintro e w' ⟨k, hk, h1, rfl, rfl⟩
    obtain rfl : k = 2 := by omega
    exact ⟨rfl, rfl⟩
  have HB := hide hb
  clear hb
  go_enter Yba.func3, Yba.ntmps3
  go_wp2_with (first | (go_at_call 5; refine HB.out.mono ?_; rintro e w' ⟨rfl, rfl⟩) | (go_at_call 6; refine (floor_2 _).mono ?_; rintro e w' ⟨rfl, rfl⟩))
  go_ret
  exact ⟨rfl, Grown.refl _⟩

theorem walk_4 (w : World) : Calls Yba.prog 3 #[.int .i64 4] w fun e w' => e = .returned (.bool true) ∧ Grown w w' := by
  have hb : Calls Yba.prog 5 #[.int .i64 4] w fun e w' => e = .returned (.int .i64 33750000000) ∧ w' = w := by
    refine (backoff_any 4 (by omega) (by omega) w).mono ?_
    rintro e w' ⟨k, hk, h1, rfl, rfl⟩
    obtain rfl : k = 3 := by omega
    exact ⟨rfl, rfl⟩
  have HB := hide hb
  clear hb
  go_enter Yba.func3, Yba.ntmps3
  go_wp2_with (first | (go_at_call 5; refine HB.out.mono ?_; rintro e w' ⟨rfl, rfl⟩) | (go_at_call 6; refine (floor_3 _).mono ?_; rintro e w' ⟨rfl, rfl⟩))
  go_ret
  exact ⟨rfl, Grown.refl _⟩

theorem walk_5 (w : World) : Calls Yba.prog 3 #[.int .i64 5] w fun e w' => e = .returned (.bool true) ∧ Grown w w' := by
  have hb : Calls Yba.prog 5 #[.int .i64 5] w fun e w' => e = .returned (.int .i64 50625000000) ∧ w' = w := by
    refine (backoff_any 5 (by omega) (by omega) w).mono ?_
    rintro e w' ⟨k, hk, h1, rfl, rfl⟩
    obtain rfl : k = 4 := by omega
    exact ⟨rfl, rfl⟩
  have HB := hide hb
  clear hb
  go_enter Yba.func3, Yba.ntmps3
  go_wp2_with (first | (go_at_call 5; refine HB.out.mono ?_; rintro e w' ⟨rfl, rfl⟩) | (go_at_call 6; refine (floor_4 _).mono ?_; rintro e w' ⟨rfl, rfl⟩))
  go_ret
  exact ⟨rfl, Grown.refl _⟩

theorem walk_6 (w : World) : Calls Yba.prog 3 #[.int .i64 6] w fun e w' => e = .returned (.bool true) ∧ Grown w w' := by
  have hb : Calls Yba.prog 5 #[.int .i64 6] w fun e w' => e = .returned (.int .i64 75937500000) ∧ w' = w := by
    refine (backoff_any 6 (by omega) (by omega) w).mono ?_
    rintro e w' ⟨k, hk, h1, rfl, rfl⟩
    obtain rfl : k = 5 := by omega
    exact ⟨rfl, rfl⟩
  have HB := hide hb
  clear hb
  go_enter Yba.func3, Yba.ntmps3
  go_wp2_with (first | (go_at_call 5; refine HB.out.mono ?_; rintro e w' ⟨rfl, rfl⟩) | (go_at_call 6; refine (floor_5 _).mono ?_; rintro e w' ⟨rfl, rfl⟩))
  go_ret
  exact ⟨rfl, Grown.refl _⟩

theorem walk_7 (w : World) : Calls Yba.prog 3 #[.int .i64 7] w fun e w' => e = .returned (.bool true) ∧ Grown w w' := by
  have hb : Calls Yba.prog 5 #[.int .i64 7] w fun e w' => e = .returned (.int .i64 113906250000) ∧ w' = w := by
    refine (backoff_any 7 (by omega) (by omega) w).mono ?_
    rintro e w' ⟨k, hk, h1, rfl, rfl⟩
    obtain rfl : k = 6 := by omega
    exact ⟨rfl, rfl⟩
  have HB := hide hb
  clear hb
  go_enter Yba.func3, Yba.ntmps3
  go_wp2_with (first | (go_at_call 5; refine HB.out.mono ?_; rintro e w' ⟨rfl, rfl⟩) | (go_at_call 6; refine (floor_6 _).mono ?_; rintro e w' ⟨rfl, rfl⟩))
  go_ret
  exact ⟨rfl, Grown.refl _⟩

theorem walk_8 (w : World) : Calls Yba.prog 3 #[.int .i64 8] w fun e w' => e = .returned (.bool true) ∧ Grown w w' := by
  have hb : Calls Yba.prog 5 #[.int .i64 8] w fun e w' => e = .returned (.int .i64 170859375000) ∧ w' = w := by
    refine (backoff_any 8 (by omega) (by omega) w).mono ?_
    rintro e w' ⟨k, hk, h1, rfl, rfl⟩
    obtain rfl : k = 7 := by omega
    exact ⟨rfl, rfl⟩
  have HB := hide hb
  clear hb
  go_enter Yba.func3, Yba.ntmps3
  go_wp2_with (first | (go_at_call 5; refine HB.out.mono ?_; rintro e w' ⟨rfl, rfl⟩) | (go_at_call 6; refine (floor_7 _).mono ?_; rintro e w' ⟨rfl, rfl⟩))
  go_ret
  exact ⟨rfl, Grown.refl _⟩

theorem walk_9 (w : World) : Calls Yba.prog 3 #[.int .i64 9] w fun e w' => e = .returned (.bool true) ∧ Grown w w' := by
  have hb : Calls Yba.prog 5 #[.int .i64 9] w fun e w' => e = .returned (.int .i64 256289062500) ∧ w' = w := by
    refine (backoff_any 9 (by omega) (by omega) w).mono ?_
    rintro e w' ⟨k, hk, h1, rfl, rfl⟩
    obtain rfl : k = 8 := by omega
    exact ⟨rfl, rfl⟩
  have HB := hide hb
  clear hb
  go_enter Yba.func3, Yba.ntmps3
  go_wp2_with (first | (go_at_call 5; refine HB.out.mono ?_; rintro e w' ⟨rfl, rfl⟩) | (go_at_call 6; refine (floor_8 _).mono ?_; rintro e w' ⟨rfl, rfl⟩))
  go_ret
  exact ⟨rfl, Grown.refl _⟩

theorem walk_10 (w : World) : Calls Yba.prog 3 #[.int .i64 10] w fun e w' => e = .returned (.bool true) ∧ Grown w w' := by
  have hb : Calls Yba.prog 5 #[.int .i64 10] w fun e w' => e = .returned (.int .i64 384433593750) ∧ w' = w := by
    refine (backoff_any 10 (by omega) (by omega) w).mono ?_
    rintro e w' ⟨k, hk, h1, rfl, rfl⟩
    obtain rfl : k = 9 := by omega
    exact ⟨rfl, rfl⟩
  have HB := hide hb
  clear hb
  go_enter Yba.func3, Yba.ntmps3
  go_wp2_with (first | (go_at_call 5; refine HB.out.mono ?_; rintro e w' ⟨rfl, rfl⟩) | (go_at_call 6; refine (floor_9 _).mono ?_; rintro e w' ⟨rfl, rfl⟩))
  go_ret
  exact ⟨rfl, Grown.refl _⟩

theorem walk_11 (w : World) : Calls Yba.prog 3 #[.int .i64 11] w fun e w' => e = .returned (.bool true) ∧ Grown w w' := by
  have hb : Calls Yba.prog 5 #[.int .i64 11] w fun e w' => e = .returned (.int .i64 576650390625) ∧ w' = w := by
    refine (backoff_any 11 (by omega) (by omega) w).mono ?_
    rintro e w' ⟨k, hk, h1, rfl, rfl⟩
    obtain rfl : k = 10 := by omega
    exact ⟨rfl, rfl⟩
  have HB := hide hb
  clear hb
  go_enter Yba.func3, Yba.ntmps3
  go_wp2_with (first | (go_at_call 5; refine HB.out.mono ?_; rintro e w' ⟨rfl, rfl⟩) | (go_at_call 6; refine (floor_10 _).mono ?_; rintro e w' ⟨rfl, rfl⟩))
  go_ret
  exact ⟨rfl, Grown.refl _⟩

theorem walk_12 (w : World) : Calls Yba.prog 3 #[.int .i64 12] w fun e w' => e = .returned (.bool true) ∧ Grown w w' := by
  have hb : Calls Yba.prog 5 #[.int .i64 12] w fun e w' => e = .returned (.int .i64 864975585937) ∧ w' = w := by
    refine (backoff_any 12 (by omega) (by omega) w).mono ?_
    rintro e w' ⟨k, hk, h1, rfl, rfl⟩
    obtain rfl : k = 11 := by omega
    exact ⟨rfl, rfl⟩
  have HB := hide hb
  clear hb
  go_enter Yba.func3, Yba.ntmps3
  go_wp2_with (first | (go_at_call 5; refine HB.out.mono ?_; rintro e w' ⟨rfl, rfl⟩) | (go_at_call 6; refine (floor_11 _).mono ?_; rintro e w' ⟨rfl, rfl⟩))
  go_ret
  exact ⟨rfl, Grown.refl _⟩

theorem walk_13 (w : World) : Calls Yba.prog 3 #[.int .i64 13] w fun e w' => e = .returned (.bool true) ∧ Grown w w' := by
  have hb : Calls Yba.prog 5 #[.int .i64 13] w fun e w' => e = .returned (.int .i64 1297463378906) ∧ w' = w := by
    refine (backoff_any 13 (by omega) (by omega) w).mono ?_
    rintro e w' ⟨k, hk, h1, rfl, rfl⟩
    obtain rfl : k = 12 := by omega
    exact ⟨rfl, rfl⟩
  have HB := hide hb
  clear hb
  go_enter Yba.func3, Yba.ntmps3
  go_wp2_with (first | (go_at_call 5; refine HB.out.mono ?_; rintro e w' ⟨rfl, rfl⟩) | (go_at_call 6; refine (floor_12 _).mono ?_; rintro e w' ⟨rfl, rfl⟩))
  go_ret
  exact ⟨rfl, Grown.refl _⟩

theorem walk_14 (w : World) : Calls Yba.prog 3 #[.int .i64 14] w fun e w' => e = .returned (.bool true) ∧ Grown w w' := by
  have hb : Calls Yba.prog 5 #[.int .i64 14] w fun e w' => e = .returned (.int .i64 1946195068359) ∧ w' = w := by
    refine (backoff_any 14 (by omega) (by omega) w).mono ?_
    rintro e w' ⟨k, hk, h1, rfl, rfl⟩
    obtain rfl : k = 13 := by omega
    exact ⟨rfl, rfl⟩
  have HB := hide hb
  clear hb
  go_enter Yba.func3, Yba.ntmps3
  go_wp2_with (first | (go_at_call 5; refine HB.out.mono ?_; rintro e w' ⟨rfl, rfl⟩) | (go_at_call 6; refine (floor_13 _).mono ?_; rintro e w' ⟨rfl, rfl⟩))
  go_ret
  exact ⟨rfl, Grown.refl _⟩

theorem walk_15 (w : World) : Calls Yba.prog 3 #[.int .i64 15] w fun e w' => e = .returned (.bool true) ∧ Grown w w' := by
  have hb : Calls Yba.prog 5 #[.int .i64 15] w fun e w' => e = .returned (.int .i64 2919292602539) ∧ w' = w := by
    refine (backoff_any 15 (by omega) (by omega) w).mono ?_
    rintro e w' ⟨k, hk, h1, rfl, rfl⟩
    obtain rfl : k = 14 := by omega
    exact ⟨rfl, rfl⟩
  have HB := hide hb
  clear hb
  go_enter Yba.func3, Yba.ntmps3
  go_wp2_with (first | (go_at_call 5; refine HB.out.mono ?_; rintro e w' ⟨rfl, rfl⟩) | (go_at_call 6; refine (floor_14 _).mono ?_; rintro e w' ⟨rfl, rfl⟩))
  go_ret
  exact ⟨rfl, Grown.refl _⟩

theorem walk_16 (w : World) : Calls Yba.prog 3 #[.int .i64 16] w fun e w' => e = .returned (.bool true) ∧ Grown w w' := by
  have hb : Calls Yba.prog 5 #[.int .i64 16] w fun e w' => e = .returned (.int .i64 4378938903808) ∧ w' = w := by
    refine (backoff_any 16 (by omega) (by omega) w).mono ?_
    rintro e w' ⟨k, hk, h1, rfl, rfl⟩
    obtain rfl : k = 15 := by omega
    exact ⟨rfl, rfl⟩
  have HB := hide hb
  clear hb
  go_enter Yba.func3, Yba.ntmps3
  go_wp2_with (first | (go_at_call 5; refine HB.out.mono ?_; rintro e w' ⟨rfl, rfl⟩) | (go_at_call 6; refine (floor_15 _).mono ?_; rintro e w' ⟨rfl, rfl⟩))
  go_ret
  exact ⟨rfl, Grown.refl _⟩

theorem walk_17 (w : World) : Calls Yba.prog 3 #[.int .i64 17] w fun e w' => e = .returned (.bool true) ∧ Grown w w' := by
  have hb : Calls Yba.prog 5 #[.int .i64 17] w fun e w' => e = .returned (.int .i64 6568408355712) ∧ w' = w := by
    refine (backoff_any 17 (by omega) (by omega) w).mono ?_
    rintro e w' ⟨k, hk, h1, rfl, rfl⟩
    obtain rfl : k = 16 := by omega
    exact ⟨rfl, rfl⟩
  have HB := hide hb
  clear hb
  go_enter Yba.func3, Yba.ntmps3
  go_wp2_with (first | (go_at_call 5; refine HB.out.mono ?_; rintro e w' ⟨rfl, rfl⟩) | (go_at_call 6; refine (floor_16 _).mono ?_; rintro e w' ⟨rfl, rfl⟩))
  go_ret
  exact ⟨rfl, Grown.refl _⟩

theorem walk_18 (w : World) : Calls Yba.prog 3 #[.int .i64 18] w fun e w' => e = .returned (.bool true) ∧ Grown w w' := by
  have hb : Calls Yba.prog 5 #[.int .i64 18] w fun e w' => e = .returned (.int .i64 9852612533569) ∧ w' = w := by
    refine (backoff_any 18 (by omega) (by omega) w).mono ?_
    rintro e w' ⟨k, hk, h1, rfl, rfl⟩
    obtain rfl : k = 17 := by omega
    exact ⟨rfl, rfl⟩
  have HB := hide hb
  clear hb
  go_enter Yba.func3, Yba.ntmps3
  go_wp2_with (first | (go_at_call 5; refine HB.out.mono ?_; rintro e w' ⟨rfl, rfl⟩) | (go_at_call 6; refine (floor_17 _).mono ?_; rintro e w' ⟨rfl, rfl⟩))
  go_ret
  exact ⟨rfl, Grown.refl _⟩

theorem walk_19 (w : World) : Calls Yba.prog 3 #[.int .i64 19] w fun e w' => e = .returned (.bool true) ∧ Grown w w' := by
  have hb : Calls Yba.prog 5 #[.int .i64 19] w fun e w' => e = .returned (.int .i64 14778918800354) ∧ w' = w := by
    refine (backoff_any 19 (by omega) (by omega) w).mono ?_
    rintro e w' ⟨k, hk, h1, rfl, rfl⟩
    obtain rfl : k = 18 := by omega
    exact ⟨rfl, rfl⟩
  have HB := hide hb
  clear hb
  go_enter Yba.func3, Yba.ntmps3
  go_wp2_with (first | (go_at_call 5; refine HB.out.mono ?_; rintro e w' ⟨rfl, rfl⟩) | (go_at_call 6; refine (floor_18 _).mono ?_; rintro e w' ⟨rfl, rfl⟩))
  go_ret
  exact ⟨rfl, Grown.refl _⟩

theorem walk_20 (w : World) : Calls Yba.prog 3 #[.int .i64 20] w fun e w' => e = .returned (.bool true) ∧ Grown w w' := by
  have hb : Calls Yba.prog 5 #[.int .i64 20] w fun e w' => e = .returned (.int .i64 22168378200531) ∧ w' = w := by
    refine (backoff_any 20 (by omega) (by omega) w).mono ?_
    rintro e w' ⟨k, hk, h1, rfl, rfl⟩
    obtain rfl : k = 19 := by omega
    exact ⟨rfl, rfl⟩
  have HB := hide hb
  clear hb
  go_enter Yba.func3, Yba.ntmps3
  go_wp2_with (first | (go_at_call 5; refine HB.out.mono ?_; rintro e w' ⟨rfl, rfl⟩) | (go_at_call 6; refine (floor_19 _).mono ?_; rintro e w' ⟨rfl, rfl⟩))
  go_ret
  exact ⟨rfl, Grown.refl _⟩

theorem walk_21 (w : World) : Calls Yba.prog 3 #[.int .i64 21] w fun e w' => e = .returned (.bool true) ∧ Grown w w' := by
  have hb : Calls Yba.prog 5 #[.int .i64 21] w fun e w' => e = .returned (.int .i64 33252567300796) ∧ w' = w := by
    refine (backoff_any 21 (by omega) (by omega) w).mono ?_
    rintro e w' ⟨k, hk, h1, rfl, rfl⟩
    obtain rfl : k = 20 := by omega
    exact ⟨rfl, rfl⟩
  have HB := hide hb
  clear hb
  go_enter Yba.func3, Yba.ntmps3
  go_wp2_with (first | (go_at_call 5; refine HB.out.mono ?_; rintro e w' ⟨rfl, rfl⟩) | (go_at_call 6; refine (floor_20 _).mono ?_; rintro e w' ⟨rfl, rfl⟩))
  go_ret
  exact ⟨rfl, Grown.refl _⟩

theorem walk_22 (w : World) : Calls Yba.prog 3 #[.int .i64 22] w fun e w' => e = .returned (.bool true) ∧ Grown w w' := by
  have hb : Calls Yba.prog 5 #[.int .i64 22] w fun e w' => e = .returned (.int .i64 49878850951194) ∧ w' = w := by
    refine (backoff_any 22 (by omega) (by omega) w).mono ?_
    rintro e w' ⟨k, hk, h1, rfl, rfl⟩
    obtain rfl : k = 21 := by omega
    exact ⟨rfl, rfl⟩
  have HB := hide hb
  clear hb
  go_enter Yba.func3, Yba.ntmps3
  go_wp2_with (first | (go_at_call 5; refine HB.out.mono ?_; rintro e w' ⟨rfl, rfl⟩) | (go_at_call 6; refine (floor_21 _).mono ?_; rintro e w' ⟨rfl, rfl⟩))
  go_ret
  exact ⟨rfl, Grown.refl _⟩

theorem walk_23 (w : World) : Calls Yba.prog 3 #[.int .i64 23] w fun e w' => e = .returned (.bool true) ∧ Grown w w' := by
  have hb : Calls Yba.prog 5 #[.int .i64 23] w fun e w' => e = .returned (.int .i64 74818276426792) ∧ w' = w := by
    refine (backoff_any 23 (by omega) (by omega) w).mono ?_
    rintro e w' ⟨k, hk, h1, rfl, rfl⟩
    obtain rfl : k = 22 := by omega
    exact ⟨rfl, rfl⟩
  have HB := hide hb
  clear hb
  go_enter Yba.func3, Yba.ntmps3
  go_wp2_with (first | (go_at_call 5; refine HB.out.mono ?_; rintro e w' ⟨rfl, rfl⟩) | (go_at_call 6; refine (floor_22 _).mono ?_; rintro e w' ⟨rfl, rfl⟩))
  go_ret
  exact ⟨rfl, Grown.refl _⟩

theorem walk_24 (w : World) : Calls Yba.prog 3 #[.int .i64 24] w fun e w' => e = .returned (.bool true) ∧ Grown w w' := by
  have hb : Calls Yba.prog 5 #[.int .i64 24] w fun e w' => e = .returned (.int .i64 112227414640188) ∧ w' = w := by
    refine (backoff_any 24 (by omega) (by omega) w).mono ?_
    rintro e w' ⟨k, hk, h1, rfl, rfl⟩
    obtain rfl : k = 23 := by omega
    exact ⟨rfl, rfl⟩
  have HB := hide hb
  clear hb
  go_enter Yba.func3, Yba.ntmps3
  go_wp2_with (first | (go_at_call 5; refine HB.out.mono ?_; rintro e w' ⟨rfl, rfl⟩) | (go_at_call 6; refine (floor_23 _).mono ?_; rintro e w' ⟨rfl, rfl⟩))
  go_ret
  exact ⟨rfl, Grown.refl _⟩

theorem walk_25 (w : World) : Calls Yba.prog 3 #[.int .i64 25] w fun e w' => e = .returned (.bool true) ∧ Grown w w' := by
  have hb : Calls Yba.prog 5 #[.int .i64 25] w fun e w' => e = .returned (.int .i64 168341121960282) ∧ w' = w := by
    refine (backoff_any 25 (by omega) (by omega) w).mono ?_
    rintro e w' ⟨k, hk, h1, rfl, rfl⟩
    obtain rfl : k = 24 := by omega
    exact ⟨rfl, rfl⟩
  have HB := hide hb
  clear hb
  go_enter Yba.func3, Yba.ntmps3
  go_wp2_with (first | (go_at_call 5; refine HB.out.mono ?_; rintro e w' ⟨rfl, rfl⟩) | (go_at_call 6; refine (floor_24 _).mono ?_; rintro e w' ⟨rfl, rfl⟩))
  go_ret
  exact ⟨rfl, Grown.refl _⟩

theorem walk_26 (w : World) : Calls Yba.prog 3 #[.int .i64 26] w fun e w' => e = .returned (.bool true) ∧ Grown w w' := by
  have hb : Calls Yba.prog 5 #[.int .i64 26] w fun e w' => e = .returned (.int .i64 252511682940423) ∧ w' = w := by
    refine (backoff_any 26 (by omega) (by omega) w).mono ?_
    rintro e w' ⟨k, hk, h1, rfl, rfl⟩
    obtain rfl : k = 25 := by omega
    exact ⟨rfl, rfl⟩
  have HB := hide hb
  clear hb
  go_enter Yba.func3, Yba.ntmps3
  go_wp2_with (first | (go_at_call 5; refine HB.out.mono ?_; rintro e w' ⟨rfl, rfl⟩) | (go_at_call 6; refine (floor_25 _).mono ?_; rintro e w' ⟨rfl, rfl⟩))
  go_ret
  exact ⟨rfl, Grown.refl _⟩

theorem walk_27 (w : World) : Calls Yba.prog 3 #[.int .i64 27] w fun e w' => e = .returned (.bool true) ∧ Grown w w' := by
  have hb : Calls Yba.prog 5 #[.int .i64 27] w fun e w' => e = .returned (.int .i64 378767524410635) ∧ w' = w := by
    refine (backoff_any 27 (by omega) (by omega) w).mono ?_
    rintro e w' ⟨k, hk, h1, rfl, rfl⟩
    obtain rfl : k = 26 := by omega
    exact ⟨rfl, rfl⟩
  have HB := hide hb
  clear hb
  go_enter Yba.func3, Yba.ntmps3
  go_wp2_with (first | (go_at_call 5; refine HB.out.mono ?_; rintro e w' ⟨rfl, rfl⟩) | (go_at_call 6; refine (floor_26 _).mono ?_; rintro e w' ⟨rfl, rfl⟩))
  go_ret
  exact ⟨rfl, Grown.refl _⟩

theorem walk (a0 : Int) (w0 : (Lit.int .i64 a0).wf = true) (w : World) :
    Calls Yba.prog 3 #[.int .i64 a0] w fun e w' => e = .returned (.bool true) ∧ Grown w w' := by
  have hb := bounds_i64 w0
  by_cases h1 : a0 < 1
  · exact walk_none a0 h1 w
  · by_cases h2 : 28 ≤ a0
    · exact walk_long a0 h2 hb.2 w
    · rcases (show a0 = 1 ∨ a0 = 2 ∨ a0 = 3 ∨ a0 = 4 ∨ a0 = 5 ∨ a0 = 6 ∨ a0 = 7 ∨ a0 = 8 ∨ a0 = 9 ∨ a0 = 10 ∨ a0 = 11 ∨ a0 = 12 ∨ a0 = 13 ∨ a0 = 14 ∨ a0 = 15 ∨ a0 = 16 ∨ a0 = 17 ∨ a0 = 18 ∨ a0 = 19 ∨ a0 = 20 ∨ a0 = 21 ∨ a0 = 22 ∨ a0 = 23 ∨ a0 = 24 ∨ a0 = 25 ∨ a0 = 26 ∨ a0 = 27 from by omega) with rfl | rfl | rfl | rfl | rfl | rfl | rfl | rfl | rfl | rfl | rfl | rfl | rfl | rfl | rfl | rfl | rfl | rfl | rfl | rfl | rfl | rfl | rfl | rfl | rfl | rfl | rfl
      · exact walk_1 w
      · exact walk_2 w
      · exact walk_3 w
      · exact walk_4 w
      · exact walk_5 w
      · exact walk_6 w
      · exact walk_7 w
      · exact walk_8 w
      · exact walk_9 w
      · exact walk_10 w
      · exact walk_11 w
      · exact walk_12 w
      · exact walk_13 w
      · exact walk_14 w
      · exact walk_15 w
      · exact walk_16 w
      · exact walk_17 w
      · exact walk_18 w
      · exact walk_19 w
      · exact walk_20 w
      · exact walk_21 w
      · exact walk_22 w
      · exact walk_23 w
      · exact walk_24 w
      · exact walk_25 w
      · exact walk_26 w
      · exact walk_27 w

/-! ### THE ROW's STEP: WRITTEN OUT: LEAVE IT -/
set_option maxRecDepth 100000 in
theorem lifted (os : Os) (started : os.Started) (H : Type) (enc : TypeId × Value → H) :
    ReturnsInHanded {} Yba.checked os 3 .any (Rows.lawS4725AExactSpec.pre6 enc Yba.prog Yba.f3 Rows.lawS4725AExactRow.domain false) (Rows.lawS4725AExactSpec.post enc Yba.prog Yba.f3 false true false false) := by
  refine returnsInHanded_of_change (C := Yba.checked) own started (by kernel_rfl) Yba.func3
    (ChangeSpec.witness6 (enc := enc) (C := Yba.checked) false ⟨#[], #[.int .i64 0], []⟩ 8 (by kernel_rfl) (by kernel_rfl) (by kernel_rfl) (by kernel_rfl)) ?_
  intro W base args ds gs before hval0 hW hcnd _
  have hval : ∀ (j : Nat) t v, Yba.f3.params[j]? = some t → args[j]? = some v → Value.okWide Yba.prog W .any base t v := hval0
  have hW' := hW
  obtain ⟨p, q, hA0, hV, rfl, hfz, hnd⟩ := hW
  have hA : DataW.TrodAll enc Yba.prog W 0 (fun _ => true) true Yba.f3.params.toList args.toList ds p := hA0
  rw [Yba.params3] at hA hval
  obtain ⟨v0, vs0, d0, ds0, p0, q0, hargs, rfl, rfl, h0, r0⟩ := trodAll_cons hA
  obtain ⟨rfl, rfl, rfl⟩ := trodAll_nil r0
  obtain rfl : args = #[v0] := by cases args; simp_all
  obtain ⟨rfl, rfl⟩ := trodVars_none hV
  obtain ⟨a0, rfl, rfl, rfl, w0⟩ := open_int Yba.underlying3 (hval 0 3 v0 rfl rfl) h0
  clear hA0 hval0
  simp only [List.append_nil] at hW'
  refine (walk a0 w0 W).mono fun e W' ⟨he, hg⟩ => ?_
  subst he
  exact ⟨_, rfl, post_of_same (pa := []) (pv := []) hW' (fun _ _ _ => (trodAll_cons_mk (shut_bool Yba.underlying4 _) trodAll_mk0)) (fun sp _ => (trodAll_cons_mk (shut_int Yba.underlying3 w0) trodAll_mk0)) (fun _ _ => rfl) rfl
    (hg.frame _) hg.2.1 (ok_one (by kernel_rfl) rfl (okWide_bool_mk Yba.underlying4 _))⟩

theorem over : Rows.lawS4725AExactRow.holds Yba.pinned (OpenSpec.ofChange Rows.lawS4725AExactSpec) :=
  OpenClaim.holds_of_wide 3 Yba.f3 rfl rfl rfl rfl rfl rfl rfl ⟨rfl, rfl, rfl, rfl, rfl⟩ rfl rfl rfl rfl rfl (by kernel_rfl) Yba.func3 (by kernel_rfl)
    (of_decide_eq_true (by kernel_rfl)) (by unfold Func.isWrapper; first | (rw [if_pos (by decide +kernel)]; kernel_rfl) | (rw [if_neg (by decide +kernel)]; exact ⟨rfl, rfl⟩))
    (fun os started H enc _ => lifted os started H enc)

/-- THE STATEMENT -/
theorem proved : Rows.LawS4725AExactSaid :=
  over
#print axioms proved
end Go.Proofs.Ybulkcsvg.lawS4725AExact
