/-
  OUR OWN. 'newCounts' (function 13).
-/
import Derived.Test.YbulkcsymCnt
namespace Go.Proofs.Ybulkcsym
open Go.RowKit Go.Shelf
/-- The cells of a table. -/
def tab (S W P R : Int) (ws : Value) (on tops wbits inv : Int) (c : Value) : List Value := [.int .i64 S, .int .i64 W, .int .i64 P, .int .i64 R, ws, .int .u64 on, .int .u64 tops, .int .i64 wbits, .int .u64 inv, c, .slice none 0 0, .slice none 0 0, .slice none 0 0, .slice none 0 0, .bool false, .int .i64 0, .int .i64 0, .slice none 0 0]
structure TabAt (w wc : World) (L : List Value) : Prop where
  blk : Blk wc w.heap.size 70 L
  below : Below w.heap.size w wc
  size : wc.heap.size = w.heap.size + 1
theorem TabAt.start (w : World) (A : Array Value) : TabAt w (w.alloc (.cells A 70)) A.toList := ⟨Blk.made w A 70, (Below.refl _ _).alloc (Nat.le_refl _) _, by simp⟩
theorem TabAt.set {w wc : World} {L : List Value} (h : TabAt w wc L) (i : Nat) (v : Value) : TabAt w (wc.setCell ⟨w.heap.size, i, none⟩ v) (L.set i v) := ⟨h.blk.set i v, h.below.setCell (Nat.le_refl _) _, by simp [World.setCell, h.size]⟩
theorem TabAt.drew {w wc : World} {L : List Value} (h : TabAt w wc L) : TabAt w wc.drew L := ⟨h.blk, h.below.drew, h.size⟩


theorem ones_wrap : ∀ W, W < 10 → IntKind.u64.wrap (IntKind.u64.wrap (2 ^ W) - 1) = 2 ^ W - 1 := by decide +kernel
theorem inv_wrap : ∀ W, W < 10 → IntKind.u64.wrap (18446744073709551615 / ((64 / W : Nat) : Int) + 1) = invW W := by decide +kernel
set_option maxRecDepth 100000 in
theorem newCounts (n S lg W P : Nat) (hn : n ≤ 300) (hS : S ≤ 4) (hS1 : 1 ≤ S) (hm : max (Lib.bitLen lg : Int) 1 = W) (hW0 : 1 ≤ W) (hW1 : W ≤ 9) (hP : 64 / W = P) (hlg : lg ≤ 300) (w : World) :
    Calls Yba.prog 13 #[.int .i64 n, .int .i64 S, .int .i64 lg] w fun e w' => e = .returned (.pointer (some ⟨w.heap.size, 0, none⟩)) ∧ Below w.heap.size w w' ∧ w'.heap.size = w.heap.size + 2 ∧ Blk w' (w.heap.size + 1) 67 (madeCells #[.int .u64 0] n).toList ∧
      ∃ tops, Blk w' w.heap.size 70 (tab S W P 1 (.slice (some ⟨w.heap.size + 1, 0, none⟩) n n) (2 ^ W - 1) tops (P * W : Nat) (invW W) (.pointer none)) := by
  have hL := hide (bits_Len lg w (by omega) (by omega))
  have HM := hide hm
  have HP := hide hP
  have hP0 : 7 ≤ P := by rw [← hP]; exact (Nat.le_div_iff_mul_le (by omega)).2 (by omega)
  have hP1 : P ≤ 64 := by rw [← hP]; exact Nat.div_le_self _ _
  have HMK := hide fun w => run_make_row' (P := Yba.prog) 66 67 (.int .u64 0) 8 Yba.underlying66 (by kernel_rfl) rfl .i64 .i64 n (by omega) (by omega) w
  clear hm hP
  have hWs : (W : Int) ≤ 64 := by omega
  go_enter Yba.func13, Yba.ntmps13
  go_wp2_with fail
  refine hL.out.mono ?_
  rintro e w' ⟨rfl, hww⟩
  obtain rfl : w = w' := hww.symm
  clear hww
  go_upto_region 2 with fail
  rw [HM.out]
  go_cut [] (fun wc => TabAt w wc (tab S W P 0 (.slice none 0 0) 0 0 0 0 (.pointer none)))
  case first =>
    go_wp2_with fail
    go_meet
    case rel =>
      have h := TabAt.start w #[.int .i64 S, .int .i64 W, .int .i64 (64 / W), .int .i64 0, .slice none 0 0, .int .u64 0, .int .u64 0, .int .i64 0, .int .u64 0, .pointer none, .slice none 0 0, .slice none 0 0, .slice none 0 0, .slice none 0 0, .bool false, .int .i64 0, .int .i64 0, .slice none 0 0]
      have e : (64 / W : Int) = P := by rw [← HP.out]; rfl
      rw [e] at h ⊢
      exact h
  case rest =>
  have d1 : wc.cell? ⟨w.heap.size, 1, none⟩ = some (.int .i64 W) := hcut.blk.cell rfl
  have d2 : wc.cell? ⟨w.heap.size, 2, none⟩ = some (.int .i64 P) := hcut.blk.cell rfl
  have d5 : wc.cell? ⟨w.heap.size, 5, none⟩ = some (.int .u64 0) := hcut.blk.cell rfl
  have d7 : wc.cell? ⟨w.heap.size, 7, none⟩ = some (.int .i64 0) := hcut.blk.cell rfl
  have f5 := hcut.blk.free 5
  have f7 := hcut.blk.free 7
  have HC := hide hcut
  clear hcut
  go_upto_region 3 with fail
  go_cut [] (fun wc => TabAt w wc (tab S W P 0 (.slice none 0 0) (2 ^ W - 1) 0 (P * W : Nat) 0 (.pointer none)))
  case first =>
    go_region
    all_goals
      go_wp2_with fail
      go_meet
      case rel =>
        have h := ((HC.out.set 5 (.int .u64 (2 ^ W - 1))).set 7 (.int .i64 (P * W : Nat))).drew
        have e7 : wrap64 ((P : Int) * W) = (P * W : Nat) := by
          rw [← Int.natCast_mul]
          have : P * W ≤ 64 * 10 := Nat.mul_le_mul (by omega) (by omega)
          exact IntWalk.wrap64_in (P * W : Nat) (by omega)
        rw [ones_wrap W (by omega), e7]
        exact h
  case rest =>
  have d1 : wc.cell? ⟨w.heap.size, 1, none⟩ = some (.int .i64 W) := hcut.blk.cell rfl
  have d2 : wc.cell? ⟨w.heap.size, 2, none⟩ = some (.int .i64 P) := hcut.blk.cell rfl
  have d8 : wc.cell? ⟨w.heap.size, 8, none⟩ = some (.int .u64 0) := hcut.blk.cell rfl
  have f8 := hcut.blk.free 8
  have HC := hide hcut
  clear hcut
  go_upto_region 4 with fail
  go_cut [] (fun wc => TabAt w wc (tab S W P 0 (.slice none 0 0) (2 ^ W - 1) 0 (P * W : Nat) (invW W) (.pointer none)))
  case first =>
    go_wp2_with fail
    go_meet
    case rel =>
      have h := HC.out.set 8 (.int .u64 (invW W))
      have e : IntKind.u64.wrap (18446744073709551615 / (P : Int) + 1) = invW W := by rw [← HP.out]; exact inv_wrap W (by omega)
      rw [e]
      exact h
  case rest =>
  have d1 : wc.cell? ⟨w.heap.size, 1, none⟩ = some (.int .i64 W) := hcut.blk.cell rfl
  have d2 : wc.cell? ⟨w.heap.size, 2, none⟩ = some (.int .i64 P) := hcut.blk.cell rfl
  have d3 : wc.cell? ⟨w.heap.size, 3, none⟩ = some (.int .i64 0) := hcut.blk.cell rfl
  have f3 := hcut.blk.free 3
  have HC := hide hcut
  clear hcut
  have hP2 : ¬ (P : Int) = 0 := by omega
  go_upto_region 5 with fail
  go_cut [] (fun wc => TabAt w wc (tab S W P 1 (.slice none 0 0) (2 ^ W - 1) 0 (P * W : Nat) (invW W) (.pointer none)))
  case first =>
    go_region
    all_goals
      go_wp2_with fail
      go_meet
      case rel =>
        have h := (HC.out.set 3 (.int .i64 1)).drew
        have e : ((S : Int) + P - 1) / P = 1 := by
          rw [show (S : Int) + P - 1 = (S - 1) + 1 * P from by omega, Int.add_mul_ediv_right _ _ hP2, Int.ediv_eq_zero_of_lt (by omega) (by omega)]
          rfl
        rw [e]
        exact h
  case rest =>
  have d2 : wc.cell? ⟨w.heap.size, 2, none⟩ = some (.int .i64 P) := hcut.blk.cell rfl
  have HC := hide hcut
  clear hcut
  go_wp2
  go_loopw [74] (fun i wr => ∃ (k : Nat) (tops : Int), k ≤ P ∧ i = .int .i64 k ∧ TabAt w wr (tab S W P 1 (.slice none 0 0) (2 ^ W - 1) tops (P * W : Nat) (invW W) (.pointer none))) (fun i _ => P - (intOf i).toNat)
  case atStart => exact ⟨0, 0, Nat.zero_le _, rfl, HC.out⟩
  case round =>
    obtain ⟨k, tops, hk, rfl, hT⟩ := hrel
    by_cases hkl : k < P
    · have d1 : wr.cell? ⟨w.heap.size, 1, none⟩ = some (.int .i64 W) := hT.blk.cell rfl
      have d6 : wr.cell? ⟨w.heap.size, 6, none⟩ = some (.int .u64 tops) := hT.blk.cell rfl
      have f6 := hT.blk.free 6
      have HT := hide hT
      clear hT
      have hq : ∃ q : Nat, q ≤ 64 ∧ wrap64 (wrap64 (wrap64 ((k : Int) * W) + W) - 1) = q := by
        have h1 : (k + 1) * W ≤ P * W := Nat.mul_le_mul_right _ (by omega)
        have h2 : P * W ≤ 64 := by rw [← HP.out]; exact Nat.div_mul_le_self _ _
        rw [Nat.add_mul] at h1
        rw [← Int.natCast_mul, IntWalk.wrap64_in (k * W : Nat) (by omega), IntWalk.wrap64_in ((k * W : Nat) + (W : Int)) (by omega), IntWalk.wrap64_in _ (by omega)]
        exact ⟨k * W + W - 1, by omega, by omega⟩
      obtain ⟨q, hq1, hq⟩ := hq
      have hq2 : (q : Int) ≤ 64 := by omega
      go_wp2
      go_region
      all_goals
        go_wp2
        go_roundw
        case rel => exact ⟨k + 1, _, by omega, by go_num, (HT.out.set 6 _).drew⟩
        case measure => simp [intOf]; omega
    · have d3 : wr.cell? ⟨w.heap.size, 3, none⟩ = some (.int .i64 1) := hT.blk.cell rfl
      have d4 : wr.cell? ⟨w.heap.size, 4, none⟩ = some (.slice none 0 0) := hT.blk.cell rfl
      have f4 := hT.blk.free 4
      have HT := hide hT
      clear hT
      have hmk := HMK.out
      have hlt : w.heap.size < wr.heap.size := by have := HT.out.size; omega
      go_wp2
      go_ret
      have hz := HT.out.size
      have h := HT.out.set 4 (.slice (some ⟨wr.heap.size, 0, none⟩) n n)
      rw [hz] at h ⊢
      refine ⟨rfl, h.below.alloc h.below.size _, by simp [World.setCell, hz], ?_, tops, h.blk.alloc _⟩
      have hb := Blk.made (wr.setCell ⟨w.heap.size, 4, none⟩ (.slice (some ⟨w.heap.size + 1, 0, none⟩) n n)) (madeCells #[.int .u64 0] n) 67
      rw [show (wr.setCell ⟨w.heap.size, 4, none⟩ (.slice (some ⟨w.heap.size + 1, 0, none⟩) n n)).heap.size = w.heap.size + 1 from by simp [World.setCell, hz]] at hb
      exact hb
end Go.Proofs.Ybulkcsym
