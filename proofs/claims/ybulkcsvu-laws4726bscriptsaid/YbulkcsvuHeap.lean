/-
  OUR OWN. 'heapSortOrdered' (function 26) and 'reverseRangeOrdered' (function 29) at uint64.
-/
import Derived.Test.YbulkcsvuSift
namespace Go.Proofs.Ybulkcsvu
open Go.RowKit

theorem size_sift (hi first : Nat) : ∀ (m r : Nat) (d : Array Int), hi - r ≤ m → (Sort.siftDown lt hi first r d).size = d.size
  | 0, r, d, h => by rw [sift_end (by omega)]
  | m + 1, r, d, h => by
    by_cases hh : hi ≤ 2 * r + 1
    · rw [sift_end hh]
    · by_cases hc : 2 * r + 2 < hi ∧ lt d[first + (2 * r + 1)]! d[first + (2 * r + 1) + 1]! = true
      · rw [sift_eq (ch := 2 * r + 2) hh (.inl ⟨hc.1, hc.2, rfl⟩)]
        split
        · rw [size_sift hi first m _ _ (by omega), Sort.size_swp]
        · rfl
      · rw [sift_eq (ch := 2 * r + 1) hh (.inr ⟨by
          by_cases h1 : 2 * r + 2 < hi
          · exact .inr (by simpa [h1] using hc)
          · exact .inl h1, rfl⟩)]
        split
        · rw [size_sift hi first m _ _ (by omega), Sort.size_swp]
        · rfl

set_option maxRecDepth 100000 in
set_option maxHeartbeats 1000000 in
theorem heap_walk (B blk n cap a b : Nat) (d : Array Int) (sp : List Value) (w wr0 : World) (hS : SR B w wr0 blk d sp) (hn : d.size = n) (hab : a < b) (hbn : b ≤ n) (hn5 : n ≤ 5000) :
    Calls Yba.prog 26 #[.slice (some ⟨blk, 0, none⟩) n cap, .int .i64 a, .int .i64 b] wr0 fun e w' => e = .returned (.tuple #[]) ∧ SR B w w' blk (Sort.heapSort lt d a b) sp := by
  obtain ⟨R, hR⟩ : ∃ R, R = Sort.heapSort lt d a b := ⟨_, rfl⟩
  rw [← hR]
  obtain ⟨hi, hhi⟩ : ∃ hi, hi = b - a := ⟨_, rfl⟩
  have hhi2 : (b : Int) - (a : Int) = (hi : Nat) := by omega
  obtain ⟨e, he⟩ : ∃ e, e = (hi - 1) / 2 := ⟨_, rfl⟩
  obtain ⟨h1, hh1⟩ : ∃ h1, h1 = hi - 1 := ⟨_, rfl⟩
  have hh12 : (hi : Int) - 1 = (h1 : Nat) := by omega
  have he2 : (h1 : Int).tdiv 2 = (e : Nat) := by rw [he, ← hh1]; exact (Int.ofNat_tdiv h1 2).symm
  have he3 : (h1 : Int) / 2 = (e : Nat) := by rw [he, ← hh1]; rfl
  rw [Sort.heapSort, ← hhi, ← he] at hR
  have HSW := hide fun lo hi' (d' : Array Int) wq (h : SR B w wq blk d' sp) (hd : d'.size = n) (hlo : lo ≤ n) (hh : a + hi' ≤ n) => sift_walk B blk n cap lo hi' a d' sp w wq h hd hlo hh hn5
  have wh := wrapN hi (by omega)
  have we := wrapN e (by omega)
  have wh1 := wrapN h1 (by omega)
  have HHI := hide hhi
  have HEE := hide he
  have HH1 := hide hh1
  have HR := hide hR
  have hahi : a + hi ≤ n := by omega
  clear hhi he hh1 hR
  go_enter Yba.func26, Yba.ntmps26
  go_wp2
  go_loopw [9] (fun i wr => ∃ (d' : Array Int), d'.size = n ∧ SR B w wr blk d' sp ∧ ((∃ k : Nat, k ≤ e ∧ i = .int .i64 k ∧ Sort.heapPop lt a hi (Sort.heapBuild lt hi a (k + 1) d') = R) ∨ (i = .int .i64 (-1) ∧ Sort.heapPop lt a hi d' = R))) (fun i _ => (intOf i + 1).toNat)
  case atStart => exact ⟨d, hn, hS, .inl ⟨e, Nat.le_refl _, rfl, HR.out.symm⟩⟩
  case round =>
    clear hS hn HR
    clear d
    obtain ⟨d, hn, hS, ⟨k, hk, rfl, hE⟩ | ⟨rfl, hE⟩⟩ := hrel
    · have hk0 : decide ((0 : Int) ≤ (k : Int)) = true := decide_eq_true (by omega)
      have HE := hide hE
      clear hE
      go_wp2_with fail
      refine (HSW.out k hi d wr hS hn (by have := HEE.out; omega) hahi).mono ?_
      rintro e' w1 ⟨rfl, hS1⟩
      have hn1 : (Sort.siftDown lt hi a k d).size = n := by rw [size_sift hi a hi k d (by omega)]; exact hn
      cases k with
      | zero =>
        go_wp2
        go_roundw
        case rel => exact ⟨_, hn1, hS1, .inr ⟨rfl, HE.out⟩⟩
        case measure => simp [intOf]
      | succ t =>
        have ht1 : ((t + 1 : Nat) : Int) - 1 = (t : Nat) := by omega
        go_wp2
        go_roundw
        case rel => exact ⟨_, hn1, hS1, .inl ⟨t, by omega, by go_num, HE.out⟩⟩
        case measure => simp [intOf]; omega
    · have HE := hide hE
      clear hE
      go_wp2
      go_loopw [10] (fun i wr => ∃ (d' : Array Int), d'.size = n ∧ SR B w wr blk d' sp ∧ ((∃ k : Nat, k < hi ∧ i = .int .i64 k ∧ Sort.heapPop lt a (k + 1) d' = R) ∨ (i = .int .i64 (-1) ∧ d' = R))) (fun i _ => (intOf i + 1).toNat)
      case atStart =>
        have e1 : h1 + 1 = hi := by have := HH1.out; have := HHI.out; omega
        exact ⟨d, hn, hS, .inl ⟨h1, by omega, rfl, by rw [e1]; exact HE.out⟩⟩
      case round =>
        clear hS hn HE
        clear d
        obtain ⟨d, hn, hS, ⟨k, hk, rfl, hE⟩ | ⟨rfl, rfl⟩⟩ := hrel
        · have hk0 : decide ((0 : Int) ≤ (k : Int)) = true := decide_eq_true (by omega)
          have HE := hide hE
          clear hE
          obtain ⟨x, hx⟩ : ∃ x, x = d[a]! := ⟨_, rfl⟩
          have cx := hS.cell (by omega) hx
          have fx := hS.free a
          have han : a < n := by omega
          cases k with
          | zero =>
            have HX := hide hx
            have HS := hide hS
            clear hS hx
            go_wp2_with fail
            go_region
            all_goals
              go_wp2_with fail
              refine (HSW.out 0 0 _ _ ((HS.out.drewN _).swp (by omega) (by omega) HX.out HX.out) (by rw [Sort.size_swp]; exact hn) (by omega) (by omega)).mono ?_
              rintro e' w1 ⟨rfl, hS1⟩
              go_wp2
              go_roundw
              case rel => exact ⟨_, by rw [size_sift 0 a 0 0 _ (by omega), Sort.size_swp]; exact hn, hS1, .inr ⟨rfl, HE.out⟩⟩
              case measure => simp [intOf]
          | succ t =>
            obtain ⟨k, hk1⟩ : ∃ k, k = t + 1 := ⟨_, rfl⟩
            rw [← hk1] at hk hk0 HE ⊢
            obtain ⟨p, hp⟩ : ∃ p, p = a + k := ⟨_, rfl⟩
            have hp2 : (a : Int) + (k : Int) = (p : Nat) := by omega
            have wp := wrapN p (by omega)
            have ht1 : (k : Int) - 1 = (t : Nat) := by omega
            obtain ⟨y, hy⟩ : ∃ y, y = d[p]! := ⟨_, rfl⟩
            have cy := hS.cell (by omega) hy
            have fy := hS.free p
            have hpn : p < n := by omega
            have hap : a ≠ p := by omega
            have hpa : p ≠ a := by omega
            have HX := hide hx
            have HY := hide hy
            have HP := hide hp
            have HS := hide hS
            have HK := hide hk1
            clear hS hx hy hp hk1
            go_wp2_with fail
            go_region
            all_goals
              go_wp2_with fail
              refine (HSW.out 0 k _ _ ((HS.out.drewN _).swp (by omega) (by omega) HX.out HY.out) (by rw [Sort.size_swp]; exact hn) (by omega) (by omega)).mono ?_
              rintro e' w1 ⟨rfl, hS1⟩
              go_wp2
              go_roundw
              case rel =>
                refine ⟨_, by rw [size_sift k a k 0 _ (by omega), Sort.size_swp]; exact hn, hS1, .inl ⟨t, by have := HK.out; omega, rfl, ?_⟩⟩
                have h := HE.out
                rw [Sort.heapPop, ← HP.out] at h
                rw [← HK.out]
                exact h
              case measure => simp [intOf]; have := HK.out; omega
        · go_wp2
          go_end0
          exact ⟨rfl, hS⟩

theorem rev_go {i j : Nat} {d : Array Int} (h : i < j) : Sort.reverseLoop i j d = Sort.reverseLoop (i + 1) (j - 1) (Sort.swp d i j) := by rw [Sort.reverseLoop, if_pos h]
theorem rev_end {i j : Nat} {d : Array Int} (h : ¬ i < j) : Sort.reverseLoop i j d = d := by rw [Sort.reverseLoop, if_neg h]

set_option maxRecDepth 100000 in
set_option maxHeartbeats 1000000 in
theorem rev_walk (B blk n cap a b : Nat) (d : Array Int) (sp : List Value) (w wr0 : World) (hS : SR B w wr0 blk d sp) (hn : d.size = n) (hab : a < b) (hbn : b ≤ n) (hn5 : n ≤ 5000) :
    Calls Yba.prog 29 #[.slice (some ⟨blk, 0, none⟩) n cap, .int .i64 a, .int .i64 b] wr0 fun e w' => e = .returned (.tuple #[]) ∧ SR B w w' blk (Sort.reverseRange d a b) sp := by
  obtain ⟨R, hR⟩ : ∃ R, R = Sort.reverseRange d a b := ⟨_, rfl⟩
  rw [← hR]
  obtain ⟨b1, hb1⟩ : ∃ b1, b1 = b - 1 := ⟨_, rfl⟩
  have hb12 : (b : Int) - 1 = (b1 : Nat) := by omega
  rw [Sort.reverseRange, ← hb1] at hR
  have hb1n : b1 < n := by omega
  have HR := hide hR
  clear hb1 hR
  go_enter Yba.func29, Yba.ntmps29
  go_wp2
  go_loopw [6, 7] (fun i j wr => ∃ (i' j' : Nat) (d' : Array Int), i' ≤ n ∧ j' < n ∧ i = .int .i64 i' ∧ j = .int .i64 j' ∧ d'.size = n ∧ SR B w wr blk d' sp ∧ Sort.reverseLoop i' j' d' = R) (fun _ j _ => (intOf j).toNat)
  case atStart => exact ⟨a, b1, d, by omega, hb1n, rfl, rfl, hn, hS, HR.out.symm⟩
  case round =>
    clear hS hn HR
    clear d
    obtain ⟨i, j, d, hi, hj, rfl, rfl, hn, hS, hE⟩ := hrel
    by_cases hij : i < j
    · have hij' : decide ((i : Int) < (j : Int)) = true := decide_eq_true (by omega)
      rw [rev_go hij] at hE
      obtain ⟨x, hx⟩ : ∃ x, x = d[i]! := ⟨_, rfl⟩
      obtain ⟨y, hy⟩ : ∃ y, y = d[j]! := ⟨_, rfl⟩
      have cx := hS.cell (by omega) hx
      have fx := hS.free i
      have cy := hS.cell (by omega) hy
      have fy := hS.free j
      have hin : i < n := by omega
      have h1 : i ≠ j := by omega
      have h2 : j ≠ i := by omega
      have HX := hide hx
      have HY := hide hy
      have HS := hide hS
      have HE := hide hE
      obtain ⟨j1, hj1⟩ : ∃ j1, j1 = j - 1 := ⟨_, rfl⟩
      have hj12 : (j : Int) - 1 = (j1 : Nat) := by omega
      have HJ := hide hj1
      clear hS hx hy hE hj1
      go_wp2_with fail
      go_region
      all_goals
        go_wp2
        go_roundw
        case rel => exact ⟨i + 1, j1, _, by omega, by omega, by go_num, rfl, by rw [Sort.size_swp]; exact hn, (HS.out.drewN _).swp (by omega) (by omega) HX.out HY.out, by rw [HJ.out]; exact HE.out⟩
        case measure => simp [intOf]; omega
    · have hij' : decide ((i : Int) < (j : Int)) = false := decide_eq_false (by omega)
      rw [rev_end hij] at hE
      subst hE
      go_wp2
      go_end0
      exact ⟨rfl, hS⟩
end Go.Proofs.Ybulkcsvu
