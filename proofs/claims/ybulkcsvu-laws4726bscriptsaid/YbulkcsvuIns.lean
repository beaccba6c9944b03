/-
  OUR OWN. 'insertionSortOrdered' at uint64 (function 25).
-/
import Derived.Test.YbulkcsvuSr
namespace Go.Proofs.Ybulkcsvu
open Go.RowKit

theorem insOuter_go {a b i : Nat} {d : Array Int} (h : i < b) : Sort.insOuter lt a b i d = Sort.insOuter lt a b (i + 1) (Sort.insInner lt a i d) := by
  rw [Sort.insOuter, if_pos h]
theorem insOuter_end {a b i : Nat} {d : Array Int} (h : ¬ i < b) : Sort.insOuter lt a b i d = d := by
  rw [Sort.insOuter, if_neg h]
theorem insInner_go {a j : Nat} {d : Array Int} (h : a < j + 1) (hl : lt d[j + 1]! d[j]! = true) : Sort.insInner lt a (j + 1) d = Sort.insInner lt a j (Sort.swp d (j + 1) j) := by
  rw [Sort.insInner, hl]
  simp [h]
theorem insInner_end {a j : Nat} {d : Array Int} (h : j ≤ a ∨ ∃ t, j = t + 1 ∧ lt d[t + 1]! d[t]! = false) : Sort.insInner lt a j d = d := by
  cases j with
  | zero => rfl
  | succ j =>
    rw [Sort.insInner]
    rcases h with h | ⟨t, ht, hl⟩
    · simp [show ¬ a < j + 1 by omega]
    · obtain rfl : j = t := by omega
      rw [hl]
      simp

set_option maxRecDepth 100000 in
set_option maxHeartbeats 1000000 in
theorem ins_walk (B blk n cap a b : Nat) (d : Array Int) (sp : List Value) (w wr0 : World) (hS : SR B w wr0 blk d sp) (hn : d.size = n) (hab : a ≤ b) (hbn : b ≤ n) (hn5 : n ≤ 5000) :
    Calls Yba.prog 25 #[.slice (some ⟨blk, 0, none⟩) n cap, .int .i64 a, .int .i64 b] wr0 fun e w' => e = .returned (.tuple #[]) ∧ SR B w w' blk (Sort.insertionSort lt d a b) sp := by
  have HL := hide fun x y w => less x y w
  obtain ⟨R, hR⟩ : ∃ R, R = Sort.insertionSort lt d a b := ⟨_, rfl⟩
  rw [← hR]
  go_enter Yba.func25, Yba.ntmps25
  go_wp2
  go_loopw [6] (fun i wr => ∃ (k : Nat) (d' : Array Int), a + 1 ≤ k ∧ k ≤ n + 1 ∧ i = .int .i64 k ∧ d'.size = n ∧ SR B w wr blk d' sp ∧ Sort.insOuter lt a b k d' = R) (fun i _ => b - (intOf i).toNat)
  case atStart => exact ⟨a + 1, d, by omega, by omega, by go_num, hn, hS, by rw [hR]; rfl⟩
  case round =>
    clear hS hn hR
    obtain ⟨k, d', hk1, hk2, rfl, hd', hS, hR⟩ := hrel
    by_cases hkb : k < b
    · have hkb' : decide ((k : Int) < (b : Int)) = true := decide_eq_true (by omega)
      rw [insOuter_go hkb] at hR
      have HR := hide hR
      clear hR
      go_wp2
      go_loopw [7] (fun i wr => ∃ (j : Nat) (d' : Array Int), j ≤ k ∧ i = .int .i64 j ∧ d'.size = n ∧ SR B w wr blk d' sp ∧ Sort.insOuter lt a b (k + 1) (Sort.insInner lt a j d') = R) (fun i _ => (intOf i).toNat)
      case atStart => exact ⟨k, d', by omega, rfl, hd', hS, HR.out⟩
      case round =>
        clear hS HR hd'
        clear d'
        obtain ⟨j, d', hjk, rfl, hd', hS, hR⟩ := hrel
        have HR := hide hR
        clear hR
        by_cases hja : a < j
        · have hja' : decide ((a : Int) < (j : Int)) = true := decide_eq_true (by omega)
          obtain ⟨t, rfl⟩ : ∃ t, j = t + 1 := ⟨j - 1, by omega⟩
          obtain ⟨j, hj⟩ : ∃ j, j = t + 1 := ⟨_, rfl⟩
          have hj1 : (j : Int) - 1 = (t : Nat) := by omega
          obtain ⟨x, hx⟩ : ∃ x, x = d'[j]! := ⟨_, rfl⟩
          obtain ⟨y, hy⟩ : ∃ y, y = d'[t]! := ⟨_, rfl⟩
          have cx := hS.cell (by omega) hx
          have cy := hS.cell (by omega) hy
          have fx := hS.free j
          have fy := hS.free t
          rw [← hj] at hja hja' hjk HR ⊢
          have hjn : j < n := by omega
          have htn : t < n := by omega
          have htj : t ≠ j := by omega
          have HS := hide hS
          have HX := hide hx
          have HY := hide hy
          have HJ := hide hj
          clear hS hx hy hj
          by_cases hl : lt x y = true
          · have HL1 : Hid (∀ w, Calls Yba.prog 31 #[.int .u64 x, .int .u64 y] w fun e w' => e = .returned (.bool true) ∧ ∃ m, w' = w.drewN m) := by intro w; rw [← hl]; exact HL.out x y w
            go_wp2_with fail
            go_quiet ((go_at_call 31; exact Calls.quiet_of (HL1.out _)))
            go_wp2_with fail
            go_region
            all_goals
              go_wp2
              go_roundw
              case rel => exact ⟨t, Sort.swp d' j t, by omega, rfl, by rw [Sort.size_swp]; exact hd', (HS.out.drewN _).swp (by omega) (by omega) HX.out HY.out, by have e := HJ.out; subst e; rw [← insInner_go (by omega) (by rw [← HX.out, ← HY.out]; exact hl)]; exact HR.out⟩
              case measure => simp [intOf]; omega
          · have hl' : lt x y = false := by simpa using hl
            have HL1 : Hid (∀ w, Calls Yba.prog 31 #[.int .u64 x, .int .u64 y] w fun e w' => e = .returned (.bool false) ∧ ∃ m, w' = w.drewN m) := by intro w; rw [← hl']; exact HL.out x y w
            go_wp2_with fail
            go_quiet ((go_at_call 31; exact Calls.quiet_of (HL1.out _)))
            go_wp2
            go_roundw
            case rel =>
              refine ⟨k + 1, d', by omega, by omega, by go_num, hd', HS.out.drewN _, ?_⟩
              have e := HJ.out
              subst e
              have h := HR.out
              rw [insInner_end (.inr ⟨t, rfl, by rw [← HX.out, ← HY.out]; exact hl'⟩)] at h
              exact h
            case measure => simp [intOf]; omega
        · have hja' : decide ((a : Int) < (j : Int)) = false := decide_eq_false (by omega)
          go_wp2_with fail
          go_quiet (fail)
          go_wp2
          go_roundw
          case rel =>
            have h := HR.out
            rw [insInner_end (.inl (by omega))] at h
            exact ⟨k + 1, d', by omega, by omega, by go_num, hd', hS.drewN _, h⟩
          case measure => simp [intOf]; omega
    · have hkb' : decide ((k : Int) < (b : Int)) = false := decide_eq_false (by omega)
      rw [insOuter_end hkb] at hR
      subst hR
      go_wp2
      go_end0
      exact ⟨rfl, hS⟩
end Go.Proofs.Ybulkcsvu
