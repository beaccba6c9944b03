/-
  OUR OWN. 'Backoff' (function 5) and what it calls.
-/
import Derived.Test.YbulkcsvgRows
import Derived.WalkKit
import Derived.WalkLawsBesides
namespace Go.Proofs.Ybulkcsvg
open Go.RowKit

/-- The seconds behind k factors 1.5, as a float64's bits. -/
def Tl : List Nat := [4621819117588971520, 4624633867356078080, 4627026404658118656, 4629946707541491712, 4632321652657487872, 4635044043447861248, 4637715856703356928, 4640215596389105664, 4643216301060259840, 4645470643494584320, 4648283486296211456, 4650819621534826496, 4653421119733235712, 4656274271876677632, 4658638007396466688, 4661536708943151104, 4663944056064180224, 4666642145350778880, 4669350410861936640, 4671822811355938816, 4674803011633283072, 4677088110658322432, 4679877886016913408, 4682448622420082688, 4685024169745076224, 4687916248198641664, 4690250788985838080, 4693127594483078016]
def T (k : Nat) : Nat := Tl.getD k 0
/-- The back-off behind k factors. -/
def Rl : List Int := [10000000000, 15000000000, 22500000000, 33750000000, 50625000000, 75937500000, 113906250000, 170859375000, 256289062500, 384433593750, 576650390625, 864975585937, 1297463378906, 1946195068359, 2919292602539, 4378938903808, 6568408355712, 9852612533569, 14778918800354, 22168378200531, 33252567300796, 49878850951194, 74818276426792, 112227414640188, 168341121960282, 252511682940423, 378767524410635, 432000000000000]
def R (k : Nat) : Int := Rl.getD k 0

theorem quo0 (w : World) : (binOp .quo 26 (.float .f64 (floatOfInt .f64 0)) (.float .f64 4741671816366391296)).run Yba.prog w = .ok (.float .f64 0) w := by kernel_rfl
theorem add10 (w : World) : (binOp .add 26 (.float .f64 (floatOfInt .f64 10)) (.float .f64 0)).run Yba.prog w = .ok (.float .f64 4621819117588971520) w := by kernel_rfl
theorem add432 (w : World) : (binOp .add 26 (.float .f64 (floatOfInt .f64 432000)) (.float .f64 0)).run Yba.prog w = .ok (.float .f64 4691165315952803840) w := by kernel_rfl

theorem seconds_a (w : World) : Calls Yba.prog 7 #[.int .i64 10000000000] w fun e w' => e = .returned (.float .f64 4621819117588971520) ∧ w' = w := by
  have h1 := quo0
  have h2 := add10
  go_enter Yba.func7, Yba.ntmps7
  go_wp2
  go_ret
  exact ⟨rfl, rfl⟩
theorem seconds_b (w : World) : Calls Yba.prog 7 #[.int .i64 432000000000000] w fun e w' => e = .returned (.float .f64 4691165315952803840) ∧ w' = w := by
  have h1 := quo0
  have h2 := add432
  go_enter Yba.func7, Yba.ntmps7
  go_wp2
  go_ret
  exact ⟨rfl, rfl⟩

/-- One factor more. -/
theorem mul_step (k : Nat) (h : k < 27) (w : World) : (binOp .mul 26 (.float .f64 (T k)) (.float .f64 4609434218613702656)).run Yba.prog w = .ok (.float .f64 (T (k + 1))) w := by
  rcases (show k = 0 ∨ k = 1 ∨ k = 2 ∨ k = 3 ∨ k = 4 ∨ k = 5 ∨ k = 6 ∨ k = 7 ∨ k = 8 ∨ k = 9 ∨ k = 10 ∨ k = 11 ∨ k = 12 ∨ k = 13 ∨ k = 14 ∨ k = 15 ∨ k = 16 ∨ k = 17 ∨ k = 18 ∨ k = 19 ∨ k = 20 ∨ k = 21 ∨ k = 22 ∨ k = 23 ∨ k = 24 ∨ k = 25 ∨ k = 26 from by omega) with rfl | rfl | rfl | rfl | rfl | rfl | rfl | rfl | rfl | rfl | rfl | rfl | rfl | rfl | rfl | rfl | rfl | rfl | rfl | rfl | rfl | rfl | rfl | rfl | rfl | rfl | rfl <;> kernel_rfl
theorem less_max : ∀ k, k < 27 → (FloatKind.f64.format.order (T k) 4691165315952803840 == some .lt) = true := by decide +kernel
theorem not_less_max : (FloatKind.f64.format.order (T 27) 4691165315952803840 == some .lt) = false := by decide +kernel

/-- The bits of the nanoseconds, ahead of the conversion. -/
def Nl : List Nat := [4756540486875873280, 4759161926875873280, 4761699446503243776, 4764648566503243776, 4766940326130614272, 4769785045757984768, 4772273365757984768, 4774910725385355264, 4777710085385355264, 4780114165012725760, 4783043124640096256, 4785405084640096256, 4788137214267466752, 4790794419267466752, 4793305115144837248, 4796294470769837248, 4798556053678457744, 4801378140766765740, 4803900409575359490, 4806512307596284674, 4809349860005952642, 4811725295326072162, 4814632771723004425, 4817026956568661774, 4819734917561789258, 4822428375513153776, 4824911881677000884, 4827900411206728839]
def Nn (k : Nat) : Nat := Nl.getD k 0
/-- The nanoseconds as an integer, ahead of the cap. -/
def Ml : List Int := [10000000000, 15000000000, 22500000000, 33750000000, 50625000000, 75937500000, 113906250000, 170859375000, 256289062500, 384433593750, 576650390625, 864975585937, 1297463378906, 1946195068359, 2919292602539, 4378938903808, 6568408355712, 9852612533569, 14778918800354, 22168378200531, 33252567300796, 49878850951194, 74818276426792, 112227414640188, 168341121960282, 252511682940423, 378767524410635, 568151286615952]
def Mm (k : Nat) : Int := Ml.getD k 0
theorem nano_step (k : Nat) (h : k < 28) (w : World) : (binOp .mul 26 (.float .f64 (T k)) (.float .f64 4741671816366391296)).run Yba.prog w = .ok (.float .f64 (Nn k)) w := by
  rcases (show k = 0 ∨ k = 1 ∨ k = 2 ∨ k = 3 ∨ k = 4 ∨ k = 5 ∨ k = 6 ∨ k = 7 ∨ k = 8 ∨ k = 9 ∨ k = 10 ∨ k = 11 ∨ k = 12 ∨ k = 13 ∨ k = 14 ∨ k = 15 ∨ k = 16 ∨ k = 17 ∨ k = 18 ∨ k = 19 ∨ k = 20 ∨ k = 21 ∨ k = 22 ∨ k = 23 ∨ k = 24 ∨ k = 25 ∨ k = 26 ∨ k = 27 from by omega) with rfl | rfl | rfl | rfl | rfl | rfl | rfl | rfl | rfl | rfl | rfl | rfl | rfl | rfl | rfl | rfl | rfl | rfl | rfl | rfl | rfl | rfl | rfl | rfl | rfl | rfl | rfl | rfl <;> kernel_rfl
theorem conv_step (k : Nat) (h : k < 28) (w : World) : (convert 26 22 (.float .f64 (Nn k))).run Yba.prog w = .ok (.int .i64 (Mm k)) w := by
  rcases (show k = 0 ∨ k = 1 ∨ k = 2 ∨ k = 3 ∨ k = 4 ∨ k = 5 ∨ k = 6 ∨ k = 7 ∨ k = 8 ∨ k = 9 ∨ k = 10 ∨ k = 11 ∨ k = 12 ∨ k = 13 ∨ k = 14 ∨ k = 15 ∨ k = 16 ∨ k = 17 ∨ k = 18 ∨ k = 19 ∨ k = 20 ∨ k = 21 ∨ k = 22 ∨ k = 23 ∨ k = 24 ∨ k = 25 ∨ k = 26 ∨ k = 27 from by omega) with rfl | rfl | rfl | rfl | rfl | rfl | rfl | rfl | rfl | rfl | rfl | rfl | rfl | rfl | rfl | rfl | rfl | rfl | rfl | rfl | rfl | rfl | rfl | rfl | rfl | rfl | rfl | rfl <;> kernel_rfl
theorem min_step (k : Nat) (h : k < 28) (ty : TypeId) (w : World) : (Builtin.min_ #[22, 22] ty #[.int .i64 (Mm k), .int .i64 432000000000000]).run Yba.prog w = .ok (.int .i64 (R k)) w := by
  rcases (show k = 0 ∨ k = 1 ∨ k = 2 ∨ k = 3 ∨ k = 4 ∨ k = 5 ∨ k = 6 ∨ k = 7 ∨ k = 8 ∨ k = 9 ∨ k = 10 ∨ k = 11 ∨ k = 12 ∨ k = 13 ∨ k = 14 ∨ k = 15 ∨ k = 16 ∨ k = 17 ∨ k = 18 ∨ k = 19 ∨ k = 20 ∨ k = 21 ∨ k = 22 ∨ k = 23 ∨ k = 24 ∨ k = 25 ∨ k = 26 ∨ k = 27 from by omega) with rfl | rfl | rfl | rfl | rfl | rfl | rfl | rfl | rfl | rfl | rfl | rfl | rfl | rfl | rfl | rfl | rfl | rfl | rfl | rfl | rfl | rfl | rfl | rfl | rfl | rfl | rfl | rfl <;> kernel_rfl

theorem backoff_none (n : Int) (h : n < 1) (w : World) : Calls Yba.prog 5 #[.int .i64 n] w fun e w' => e = .returned (.int .i64 0) ∧ w' = w := by
  go_enter Yba.func5, Yba.ntmps5
  go_wp2
  go_ret
  exact ⟨rfl, rfl⟩


set_option maxHeartbeats 400000 in
theorem backoff_any (n : Int) (h : 1 ≤ n) (hn : n ≤ 9223372036854775807) (w : World) : Calls Yba.prog 5 #[.int .i64 n] w fun e w' => ∃ k : Nat, k ≤ 27 ∧ ((k : Int) + 1 = n ∨ k = 27 ∧ 28 ≤ n) ∧ e = .returned (.int .i64 (R k)) ∧ w' = w := by
  have hb : ¬ n < 1 := by omega
  go_enter Yba.func5, Yba.ntmps5
  go_wp2_with (go_at_call 7; refine (seconds_a _).mono ?_; rintro e w' ⟨rfl, rfl⟩)
  go_loop [3, 4] (fun s i => ∃ k : Nat, k ≤ 27 ∧ (k : Int) + 1 ≤ n ∧ s = .float .f64 (T k) ∧ i = .int .i64 ((k : Int) + 1)) (fun _ i => (28 - intOf i).toNat)
  case atStart => exact ⟨0, by omega, by omega, rfl, rfl⟩
  case round =>
    obtain ⟨k, hk, hkn, rfl, rfl⟩ := hrel
    by_cases hlt : (k : Int) + 1 < n
    · by_cases hk27 : k < 27
      · have hl := less_max k hk27
        have hm := mul_step k hk27
        go_wp2_with (go_at_call 7; refine (seconds_b _).mono ?_; rintro e w' ⟨rfl, rfl⟩)
        go_round
        case rel => exact ⟨k + 1, by omega, by omega, rfl, by go_num⟩
        case measure => simp [intOf]; omega
      · obtain rfl : k = 27 := by omega
        have hl := not_less_max
        have h1 := nano_step 27 (by omega)
        have h2 := conv_step 27 (by omega)
        have h3 := fun ty w => min_step 27 (by omega) ty w
        go_wp2_with (go_at_call 7; refine (seconds_b _).mono ?_; rintro e w' ⟨rfl, rfl⟩)
        go_ret
        exact ⟨27, by omega, .inr ⟨rfl, by omega⟩, rfl, rfl⟩
    · have hd : decide ((k : Int) + 1 < n) = false := decide_eq_false hlt
      have h1 := nano_step k (by omega)
      have h2 := conv_step k (by omega)
      have h3 := fun ty w => min_step k (by omega) ty w
      go_wp2_with fail
      go_ret
      exact ⟨k, by omega, .inl (by omega), rfl, rfl⟩
end Go.Proofs.Ybulkcsvg
