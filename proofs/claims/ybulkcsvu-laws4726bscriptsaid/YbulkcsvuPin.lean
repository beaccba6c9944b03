/-
  OUR OWN. 'partialInsertionSortOrdered' (30) at uint64.
-/
import Derived.Test.YbulkcsvuPeq
namespace Go.Proofs.Ybulkcsvu
open Go.RowKit

theorem ss_go {d : Array Int} {b k k0 : Nat} (h : k < b) (hk : k0 = k - 1) (hp : lt d[k]! d[k0]! = false) : Sort.scanSorted lt d b k = Sort.scanSorted lt d b (k + 1) := by
  subst hk
  rw [Sort.scanSorted, hp]
  simp [h]
theorem ss_end {d : Array Int} {b k k0 : Nat} (hk : k0 = k - 1) (h : ¬ k < b ∨ lt d[k]! d[k0]! = true) : Sort.scanSorted lt d b k = k := by
  subst hk
  rw [Sort.scanSorted]
  rcases h with h | h <;> simp [h]
theorem ss_bd {d : Array Int} {b : Nat} : ∀ (m k : Nat), b - k ≤ m → k ≤ b → k ≤ Sort.scanSorted lt d b k ∧ Sort.scanSorted lt d b k ≤ b
  | 0, k, h, hk => by rw [ss_end (b := b) (k := k) rfl (.inl (by omega))]; omega
  | m + 1, k, h, hk => by
    by_cases hg : k < b ∧ lt d[k]! d[k - 1]! = false
    · rw [ss_go hg.1 rfl hg.2]
      have := ss_bd (d := d) (b := b) m (k + 1) (by omega) (by omega)
      omega
    · rw [ss_end rfl]
      · omega
      · by_cases h1 : k < b
        · exact .inr (by simpa [h1] using hg)
        · exact .inl h1
theorem sd_go {d : Array Int} {k k0 : Nat} (hk : k = k0 + 1) (h : lt d[k]! d[k0]! = true) : Sort.shiftDown lt k d = Sort.shiftDown lt k0 (Sort.swp d k k0) := by
  subst hk
  rw [Sort.shiftDown, h]
  simp
theorem sd_end {d : Array Int} {k k0 : Nat} (hk : k = k0 + 1) (h : lt d[k]! d[k0]! = false) : Sort.shiftDown lt k d = d := by
  subst hk
  rw [Sort.shiftDown, h]
  simp
theorem sd_size : ∀ (k : Nat) (d : Array Int), (Sort.shiftDown lt k d).size = d.size
  | 0, d => rfl
  | k + 1, d => by
    by_cases h : lt d[k + 1]! d[k]! = true
    · rw [sd_go rfl h, sd_size, Sort.size_swp]
    · rw [sd_end rfl (by simpa using h)]
theorem su_go {d : Array Int} {b k k0 : Nat} (h : k < b) (hk : k0 = k - 1) (hp : lt d[k]! d[k0]! = true) : Sort.shiftUp lt b k d = Sort.shiftUp lt b (k + 1) (Sort.swp d k k0) := by
  subst hk
  rw [Sort.shiftUp, hp]
  simp [h]
theorem su_end {d : Array Int} {b k k0 : Nat} (hk : k0 = k - 1) (h : ¬ k < b ∨ lt d[k]! d[k0]! = false) : Sort.shiftUp lt b k d = d := by
  subst hk
  rw [Sort.shiftUp]
  rcases h with h | h <;> simp [h]
theorem su_size {b : Nat} : ∀ (m k : Nat) (d : Array Int), b - k ≤ m → (Sort.shiftUp lt b k d).size = d.size
  | 0, k, d, h => by rw [su_end (b := b) (k := k) rfl (.inl (by omega))]
  | m + 1, k, d, h => by
    by_cases hg : k < b ∧ lt d[k]! d[k - 1]! = true
    · rw [su_go hg.1 rfl hg.2, su_size m _ _ (by omega), Sort.size_swp]
    · rw [su_end rfl]
      by_cases h1 : k < b
      · exact .inr (by simpa [h1] using hg)
      · exact .inl h1
theorem pi_step {a b s i I I0 : Nat} {d D1 D2 D3 : Array Int} (hI : I = Sort.scanSorted lt d b i) (hI0 : I0 = I - 1) (h1 : D1 = Sort.swp d I I0) (h2 : D2 = if I - a ≥ 2 then Sort.shiftDown lt I0 D1 else D1) (h3 : D3 = if b - I ≥ 2 then Sort.shiftUp lt b (I + 1) D2 else D2) :
    Sort.partialIns lt a b (s + 1) i d = if I = b then (d, true) else if b - a < 50 then (d, false) else Sort.partialIns lt a b s I D3 := by
  rw [Sort.partialIns]
  simp only [← hI, ← hI0, ← h1, ← h2, ← h3]

set_option maxRecDepth 100000 in
set_option maxHeartbeats 2000000 in
theorem pins_walk (B blk n cap a b : Nat) (d0 : Array Int) (sp : List Value) (w wr0 : World) (hS0 : SR B w wr0 blk d0 sp) (hd0 : d0.size = n) (hab : a < b) (hbn : b ≤ n) (hn5 : n ≤ 5000) :
    Calls Yba.prog 30 #[.slice (some ⟨blk, 0, none⟩) n cap, .int .i64 a, .int .i64 b] wr0 fun e w' => e = .returned (.bool (Sort.partialInsertionSort lt d0 a b).2) ∧ SR B w w' blk (Sort.partialInsertionSort lt d0 a b).1 sp := by
  have HL := hide fun x y w => less x y w
  obtain ⟨r1, r2, hR⟩ : ∃ r1 r2, (r1, r2) = Sort.partialInsertionSort lt d0 a b := ⟨_, _, rfl⟩
  rw [← hR]
  rw [Sort.partialInsertionSort] at hR
  have HR := hide hR
  obtain ⟨l, hl⟩ : ∃ l, l = b - a := ⟨_, rfl⟩
  have hl2 : (b : Int) - (a : Int) = (l : Nat) := by omega
  have wl := wrapN l (by omega)
  have HLL := hide hl
  clear hR hl
  go_enter Yba.func30, Yba.ntmps30
  go_wp2
  go_loopw [7, 8] (fun i j wr => ∃ (i' s : Nat) (d : Array Int), a + 1 ≤ i' ∧ i' ≤ b ∧ s ≤ 5 ∧ i = .int .i64 i' ∧ j = .int .i64 s ∧ d.size = n ∧ SR B w wr blk d sp ∧ Sort.partialIns lt a b (5 - s) i' d = (r1, r2)) (fun _ j _ => 5 - (intOf j).toNat)
  case atStart => exact ⟨a + 1, 0, d0, by omega, by omega, by omega, by go_num, rfl, hd0, hS0, HR.out.symm⟩
  case round =>
    clear hS0 hd0 HR
    obtain ⟨i, s, d, hai, hib, hs5, rfl, rfl, hds, hS, hE⟩ := hrel
    by_cases hs : s < 5
    · have hs' : decide ((s : Int) < 5) = true := decide_eq_true (by omega)
      obtain ⟨I, hI⟩ : ∃ I, I = Sort.scanSorted lt d b i := ⟨_, rfl⟩
      obtain ⟨I0, hI0⟩ : ∃ I0, I0 = I - 1 := ⟨_, rfl⟩
      obtain ⟨D1, hD1⟩ : ∃ D1, D1 = Sort.swp d I I0 := ⟨_, rfl⟩
      obtain ⟨D2, hD2⟩ : ∃ D2, D2 = if I - a ≥ 2 then Sort.shiftDown lt I0 D1 else D1 := ⟨_, rfl⟩
      obtain ⟨D3, hD3⟩ : ∃ D3, D3 = if b - I ≥ 2 then Sort.shiftUp lt b (I + 1) D2 else D2 := ⟨_, rfl⟩
      have hbd := ss_bd (d := d) (b := b) _ i (Nat.le_refl _) hib
      rw [← hI] at hbd
      rw [show 5 - s = (5 - (s + 1)) + 1 by omega, pi_step hI hI0 hD1 hD2 hD3] at hE
      have hD1s : D1.size = n := by rw [hD1, Sort.size_swp]; exact hds
      have hD2s : D2.size = n := by rw [hD2]; split; rw [sd_size]; exact hD1s; exact hD1s
      have hD3s : D3.size = n := by rw [hD3]; split; rw [su_size _ _ _ (Nat.le_refl _)]; exact hD2s; exact hD2s
      have hI02 : (I : Int) - 1 = (I0 : Nat) := by omega
      have hI0n : I0 < n := by omega
      have hII0 : I0 + 1 = I := by omega
      have HI := hide hI
      have HD1 := hide hD1
      have HD2 := hide hD2
      have HD3 := hide hD3
      have HE := hide hE
      have HS := hide hS
      have HII := hide hII0
      clear hI hI0 hD1 hD2 hD3 hE hS hII0
      go_upto_block 2 with fail
      go_cut [7] (fun iv wc => iv = .int .i64 ((I : Nat) : Int) ∧ SR B w wc blk d sp)
      case first =>
        go_wp2_with fail
        go_loopw [7] (fun iv wq => ∃ k : Nat, a + 1 ≤ k ∧ k ≤ b ∧ iv = .int .i64 k ∧ SR B w wq blk d sp ∧ Sort.scanSorted lt d b k = I) (fun iv _ => b - (intOf iv).toNat)
        case atStart => exact ⟨i, hai, hib, rfl, HS.out, HI.out.symm⟩
        case round =>
          clear HS
          obtain ⟨k, hka, hkb, rfl, hS1, hE⟩ := hrel
          have HE := hide hE
          clear hE
          by_cases hkj : k < b
          · have hg1 : decide ((k : Int) < (b : Int)) = true := decide_eq_true (by omega)
            obtain ⟨k0, hk0⟩ : ∃ k0, k0 = k - 1 := ⟨_, rfl⟩
            have hk02 : (k : Int) - 1 = (k0 : Nat) := by omega
            obtain ⟨x, hx⟩ : ∃ x, x = d[k]! := ⟨_, rfl⟩
            obtain ⟨y, hy⟩ : ∃ y, y = d[k0]! := ⟨_, rfl⟩
            have cx := hS1.cell (by omega) hx
            have cy := hS1.cell (by omega) hy
            have hkn2 : k < n := by omega
            have hk0n : k0 < n := by omega
            have HX := hide hx
            have HY := hide hy
            have HK := hide hk0
            have HS1 := hide hS1
            clear hx hy hS1 hk0
            by_cases hl : lt x y = true
            · have L1 : Hid (∀ w, Calls Yba.prog 31 #[.int .u64 x, .int .u64 y] w fun e w' => e = .returned (.bool true) ∧ ∃ m, w' = w.drewN m) := by intro w; rw [← hl]; exact HL.out x y w
              go_wp2_with fail
              go_quiet ((go_at_call 31; exact Calls.quiet_of (L1.out _)))
              go_wp2
              go_meet
              case rel => exact ⟨congrArg (Value.int .i64) (congrArg Int.ofNat ((ss_end HK.out (.inr (by rw [← HX.out, ← HY.out]; exact hl))).symm.trans HE.out)), HS1.out.drewN _⟩
            · have hl' : lt x y = false := by simpa using hl
              have L1 : Hid (∀ w, Calls Yba.prog 31 #[.int .u64 x, .int .u64 y] w fun e w' => e = .returned (.bool false) ∧ ∃ m, w' = w.drewN m) := by intro w; rw [← hl']; exact HL.out x y w
              go_wp2_with fail
              go_quiet ((go_at_call 31; exact Calls.quiet_of (L1.out _)))
              go_wp2
              go_roundw
              case rel => exact ⟨k + 1, by omega, by omega, by go_num, HS1.out.drewN _, by rw [← HE.out]; exact (ss_go hkj HK.out (by rw [← HX.out, ← HY.out]; exact hl')).symm⟩
              case measure => simp [intOf]; omega
          · have hg1 : decide ((k : Int) < (b : Int)) = false := decide_eq_false (by omega)
            have HS1 := hide hS1
            clear hS1
            go_wp2_with fail
            go_quiet (fail)
            go_wp2
            go_meet
            case rel => exact ⟨congrArg (Value.int .i64) (congrArg Int.ofNat ((ss_end rfl (.inl hkj)).symm.trans HE.out)), HS1.out.drewN _⟩
      case rest =>
      obtain ⟨rfl, hS⟩ := hcut
      clear HS
      have HS := hide hS
      clear hS
      by_cases hIb : I = b
      · have h := HE.out
        rw [if_pos hIb, Prod.mk.injEq] at h
        obtain ⟨rfl, rfl⟩ := h
        subst hIb
        have hg3 : ((I : Int) == (I : Int)) = true := by simp
        go_wp2
        go_ret
        exact ⟨rfl, HS.out⟩
      · have hg3 : ((I : Int) == (b : Int)) = false := by simp; omega
        have hIb2 : I < b := by omega
        by_cases hl50 : l < 50
        · have hg4 : decide ((l : Int) < 50) = true := decide_eq_true (by omega)
          have h := HE.out
          rw [if_neg hIb, if_pos (by rw [← HLL.out]; exact hl50), Prod.mk.injEq] at h
          obtain ⟨rfl, rfl⟩ := h
          go_wp2
          go_ret
          exact ⟨rfl, HS.out⟩
        · have hg4 : decide ((l : Int) < 50) = false := decide_eq_false (by omega)
          have h := HE.out
          rw [if_neg hIb, if_neg (by rw [← HLL.out]; exact hl50)] at h
          have HE2 := hide h
          have hIn : I < n := by omega
          clear h HE
          go_upto_region 11 with fail
          go_cut [] (fun wc => SR B w wc blk (Sort.swp d I I0) sp)
          case first =>
            obtain ⟨u, hu⟩ : ∃ u, u = d[I]! := ⟨_, rfl⟩
            obtain ⟨v, hv⟩ : ∃ v, v = d[I0]! := ⟨_, rfl⟩
            have cu := HS.out.cell (by omega) hu
            have cv := HS.out.cell (by omega) hv
            have fu := HS.out.free I
            have fv := HS.out.free I0
            have HU := hide hu
            have HV := hide hv
            clear hu hv
            have hij : I ≠ I0 := by have := HII.out; omega
            have hji : I0 ≠ I := fun h => hij h.symm
            go_region
            all_goals
              go_wp2_with fail
              go_meet
              case rel => exact (HS.out.drewN _).swp (by omega) (by omega) HU.out HV.out
          case rest =>
          have hS := hcut
          clear hcut HS
          rw [← HD1.out] at hS
          have HS := hide hS
          clear hS
          obtain ⟨m, hm⟩ : ∃ m, m = I - a := ⟨_, rfl⟩
          have hm2 : (I : Int) - (a : Int) = (m : Nat) := by omega
          have wm := wrapN m (by omega)
          have HM := hide hm
          clear hm
          go_upto_if 61 with fail
          go_cut [] (fun wc => SR B w wc blk D2 sp)
          case first =>
            by_cases hm3 : 2 ≤ m
            · have hg5 : decide ((2 : Int) ≤ (m : Int)) = true := decide_eq_true (by omega)
              have hD2 : Sort.shiftDown lt I0 D1 = D2 := by rw [HD2.out, if_pos (by have := HM.out; omega)]
              have HD2' := hide hD2
              clear hD2
              go_wp2_with fail
              go_loopw [9] (fun iv wq => ∃ (k : Nat) (d3 : Array Int), k ≤ I0 ∧ iv = .int .i64 k ∧ d3.size = n ∧ SR B w wq blk d3 sp ∧ Sort.shiftDown lt k d3 = D2) (fun iv _ => (intOf iv).toNat)
              case atStart => exact ⟨I0, D1, Nat.le_refl _, rfl, hD1s, HS.out, HD2'.out⟩
              case round =>
                clear HS
                obtain ⟨k, d3, hkI, rfl, hd3, hS1, hE⟩ := hrel
                have HE := hide hE
                clear hE
                by_cases hk1 : 1 ≤ k
                · have hg1 : decide ((1 : Int) ≤ (k : Int)) = true := decide_eq_true (by omega)
                  have hg1b : decide (1 ≤ k) = true := decide_eq_true hk1
                  obtain ⟨k0, hk0⟩ : ∃ k0, k = k0 + 1 := ⟨k - 1, by omega⟩
                  have hk02 : (k : Int) - 1 = (k0 : Nat) := by omega
                  obtain ⟨x, hx⟩ : ∃ x, x = d3[k]! := ⟨_, rfl⟩
                  obtain ⟨y, hy⟩ : ∃ y, y = d3[k0]! := ⟨_, rfl⟩
                  have cx := hS1.cell (by omega) hx
                  have cy := hS1.cell (by omega) hy
                  have fx := hS1.free k
                  have fy := hS1.free k0
                  have hkn2 : k < n := by omega
                  have hk0n : k0 < n := by omega
                  have hkk : k ≠ k0 := by omega
                  have hkk' : k0 ≠ k := by omega
                  have HX := hide hx
                  have HY := hide hy
                  have HK := hide hk0
                  have HS1 := hide hS1
                  clear hx hy hS1 hk0
                  by_cases hl : lt x y = true
                  · have L1 : Hid (∀ w, Calls Yba.prog 31 #[.int .u64 x, .int .u64 y] w fun e w' => e = .returned (.bool true) ∧ ∃ m, w' = w.drewN m) := by intro w; rw [← hl]; exact HL.out x y w
                    go_wp2_with fail
                    go_quiet ((go_at_call 31; exact Calls.quiet_of (L1.out _)))
                    go_wp2_with fail
                    go_region
                    all_goals
                      go_wp2
                      go_roundw
                      case rel => exact ⟨k0, _, by omega, rfl, by rw [Sort.size_swp]; exact hd3, (HS1.out.drewN _).swp (by omega) (by omega) HX.out HY.out, by rw [← HE.out]; exact (sd_go HK.out (by rw [← HX.out, ← HY.out]; exact hl)).symm⟩
                      case measure => simp [intOf]; have := HK.out; omega
                  · have hl' : lt x y = false := by simpa using hl
                    have L1 : Hid (∀ w, Calls Yba.prog 31 #[.int .u64 x, .int .u64 y] w fun e w' => e = .returned (.bool false) ∧ ∃ m, w' = w.drewN m) := by intro w; rw [← hl']; exact HL.out x y w
                    go_wp2_with fail
                    go_quiet ((go_at_call 31; exact Calls.quiet_of (L1.out _)))
                    go_wp2
                    go_meet
                    case rel =>
                      have h := HE.out
                      rw [sd_end HK.out (by rw [← HX.out, ← HY.out]; exact hl')] at h
                      rw [← h]
                      exact HS1.out.drewN _
                · obtain rfl : k = 0 := by omega
                  have h := HE.out
                  rw [Sort.shiftDown] at h
                  subst h
                  go_wp2
                  go_meet
                  case rel => exact hS1
            · have hg5 : decide ((2 : Int) ≤ (m : Int)) = false := decide_eq_false (by omega)
              have hD2 : D1 = D2 := by rw [HD2.out, if_neg (by have := HM.out; omega)]
              go_wp2
              go_meet
              case rel => rw [← hD2]; exact HS.out
          case rest =>
          clear HS
          have HS := hide hcut
          clear hcut hm2 wm
          obtain ⟨q, hq⟩ : ∃ q, q = b - I := ⟨_, rfl⟩
          have hq2 : (b : Int) - (I : Int) = (q : Nat) := by omega
          have wq' := wrapN q (by omega)
          have HQ := hide hq
          clear hq
          by_cases hq3 : 2 ≤ q
          · have hg5 : decide ((2 : Int) ≤ (q : Int)) = true := decide_eq_true (by omega)
            have hD3 : Sort.shiftUp lt b (I + 1) D2 = D3 := by rw [HD3.out, if_pos (by have := HQ.out; omega)]
            have HD3' := hide hD3
            clear hD3
            go_wp2_with fail
            go_loopw [10] (fun iv wq => ∃ (k : Nat) (d3 : Array Int), 1 ≤ k ∧ k ≤ b ∧ iv = .int .i64 k ∧ d3.size = n ∧ SR B w wq blk d3 sp ∧ Sort.shiftUp lt b k d3 = D3) (fun iv _ => b - (intOf iv).toNat)
            case atStart => exact ⟨I + 1, D2, by omega, by omega, by go_num, hD2s, HS.out, HD3'.out⟩
            case round =>
              clear HS
              obtain ⟨k, d3, hk1, hkb, rfl, hd3, hS1, hE⟩ := hrel
              have HE := hide hE
              clear hE
              by_cases hkj : k < b
              · have hg1 : decide ((k : Int) < (b : Int)) = true := decide_eq_true (by omega)
                obtain ⟨k0, hk0⟩ : ∃ k0, k0 = k - 1 := ⟨_, rfl⟩
                have hk02 : (k : Int) - 1 = (k0 : Nat) := by omega
                obtain ⟨x, hx⟩ : ∃ x, x = d3[k]! := ⟨_, rfl⟩
                obtain ⟨y, hy⟩ : ∃ y, y = d3[k0]! := ⟨_, rfl⟩
                have cx := hS1.cell (by omega) hx
                have cy := hS1.cell (by omega) hy
                have fx := hS1.free k
                have fy := hS1.free k0
                have hkn2 : k < n := by omega
                have hk0n : k0 < n := by omega
                have hkk : k ≠ k0 := by omega
                have hkk' : k0 ≠ k := by omega
                have HX := hide hx
                have HY := hide hy
                have HK := hide hk0
                have HS1 := hide hS1
                clear hx hy hS1 hk0
                by_cases hl : lt x y = true
                · have L1 : Hid (∀ w, Calls Yba.prog 31 #[.int .u64 x, .int .u64 y] w fun e w' => e = .returned (.bool true) ∧ ∃ m, w' = w.drewN m) := by intro w; rw [← hl]; exact HL.out x y w
                  go_wp2_with fail
                  go_quiet ((go_at_call 31; exact Calls.quiet_of (L1.out _)))
                  go_wp2_with fail
                  go_region
                  all_goals
                    go_wp2
                    go_roundw
                    case rel => exact ⟨k + 1, _, by omega, by omega, by go_num, by rw [Sort.size_swp]; exact hd3, (HS1.out.drewN _).swp (by omega) (by omega) HX.out HY.out, by rw [← HE.out]; exact (su_go hkj HK.out (by rw [← HX.out, ← HY.out]; exact hl)).symm⟩
                    case measure => simp [intOf]; omega
                · have hl' : lt x y = false := by simpa using hl
                  have L1 : Hid (∀ w, Calls Yba.prog 31 #[.int .u64 x, .int .u64 y] w fun e w' => e = .returned (.bool false) ∧ ∃ m, w' = w.drewN m) := by intro w; rw [← hl']; exact HL.out x y w
                  go_wp2_with fail
                  go_quiet ((go_at_call 31; exact Calls.quiet_of (L1.out _)))
                  go_wp2
                  go_roundw
                  case rel =>
                    have h := HE.out
                    rw [su_end HK.out (.inr (by rw [← HX.out, ← HY.out]; exact hl'))] at h
                    exact ⟨I, s + 1, D3, by omega, by omega, by omega, rfl, by go_num, hD3s, by rw [← h]; exact HS1.out.drewN _, HE2.out⟩
                  case measure => simp [intOf]; omega
              · have hg1 : decide ((k : Int) < (b : Int)) = false := decide_eq_false (by omega)
                have h := HE.out
                rw [su_end rfl (.inl hkj)] at h
                subst h
                go_wp2
                go_roundw
                case rel => exact ⟨I, s + 1, d3, by omega, by omega, by omega, rfl, by go_num, hd3, hS1, HE2.out⟩
                case measure => simp [intOf]; omega
          · have hg5 : decide ((2 : Int) ≤ (q : Int)) = false := decide_eq_false (by omega)
            have hD3 : D2 = D3 := by rw [HD3.out, if_neg (by have := HQ.out; omega)]
            go_wp2
            go_roundw
            case rel => exact ⟨I, s + 1, D3, by omega, by omega, by omega, rfl, by go_num, hD3s, by rw [← hD3]; exact HS.out, HE2.out⟩
            case measure => simp [intOf]; omega
    · obtain rfl : s = 5 := by omega
      rw [show 5 - 5 = 0 from rfl, Sort.partialIns, Prod.mk.injEq] at hE
      obtain ⟨rfl, rfl⟩ := hE
      go_wp2
      go_ret
      exact ⟨rfl, hS⟩
end Go.Proofs.Ybulkcsvu
