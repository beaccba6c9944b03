/-
  OUR OWN. 'siftDownOrdered' at uint64 (function 36).
-/
import Derived.Test.YbulkcsvuSr
namespace Go.Proofs.Ybulkcsvu
open Go.RowKit

theorem sift_end {hi first r : Nat} {d : Array Int} (h : hi ≤ 2 * r + 1) : Sort.siftDown lt hi first r d = d := by
  rw [Sort.siftDown, dif_pos h]
theorem sift_eq {hi first r ch : Nat} {d : Array Int} (h : ¬ hi ≤ 2 * r + 1)
    (hch : (2 * r + 2 < hi ∧ lt d[first + (2 * r + 1)]! d[first + (2 * r + 1) + 1]! = true ∧ ch = 2 * r + 2) ∨ ((¬ 2 * r + 2 < hi ∨ lt d[first + (2 * r + 1)]! d[first + (2 * r + 1) + 1]! = false) ∧ ch = 2 * r + 1)) :
    Sort.siftDown lt hi first r d = if lt d[first + r]! d[first + ch]! then Sort.siftDown lt hi first ch (Sort.swp d (first + r) (first + ch)) else d := by
  rw [Sort.siftDown, dif_neg h]
  rcases hch with ⟨h1, h2, rfl⟩ | ⟨h1, rfl⟩
  · rw [h2, dif_pos h1]
    simp only [show 2 * r + 1 + 1 < hi from h1, decide_true, Bool.and_true, if_true]
    cases lt d[first + r]! d[first + (2 * r + 2)]! <;> simp
  · have : (decide (2 * r + 1 + 1 < hi) && lt d[first + (2 * r + 1)]! d[first + (2 * r + 1) + 1]!) = false := by
      rcases h1 with h1 | h1
      · simp [show ¬ 2 * r + 1 + 1 < hi from h1]
      · simp [h1]
    rw [this]
    cases lt d[first + r]! d[first + (2 * r + 1)]! <;> simp

set_option maxRecDepth 100000 in
set_option maxHeartbeats 1000000 in
theorem sift_walk (B blk n cap lo hi first : Nat) (d : Array Int) (sp : List Value) (w wr0 : World) (hS : SR B w wr0 blk d sp) (hn : d.size = n) (hlo : lo ≤ n) (hhi : first + hi ≤ n) (hn5 : n ≤ 5000) :
    Calls Yba.prog 36 #[.slice (some ⟨blk, 0, none⟩) n cap, .int .i64 lo, .int .i64 hi, .int .i64 first] wr0 fun e w' => e = .returned (.tuple #[]) ∧ SR B w w' blk (Sort.siftDown lt hi first lo d) sp := by
  have HL := hide fun x y w => less x y w
  obtain ⟨R, hR⟩ : ∃ R, R = Sort.siftDown lt hi first lo d := ⟨_, rfl⟩
  rw [← hR]
  go_enter Yba.func36, Yba.ntmps36
  go_wp2
  go_loopw [8] (fun i wr => ∃ (r : Nat) (d' : Array Int), r ≤ n ∧ i = .int .i64 r ∧ d'.size = n ∧ SR B w wr blk d' sp ∧ Sort.siftDown lt hi first r d' = R) (fun i _ => hi - (intOf i).toNat)
  case atStart => exact ⟨lo, d, hlo, rfl, hn, hS, hR.symm⟩
  case round =>
    clear hS hn hR
    obtain ⟨r, d', hr, rfl, hd', hS, hE⟩ := hrel
    obtain ⟨c, hc⟩ : ∃ c, c = 2 * r + 1 := ⟨_, rfl⟩
    have hc2 : (2 : Int) * (r : Int) + 1 = (c : Nat) := by omega
    have HE := hide hE
    clear hE
    have wc := wrapN c (by omega)
    by_cases hch : hi ≤ c
    · have hch' : decide ((hi : Int) ≤ (c : Int)) = true := decide_eq_true (by omega)
      have HC := hide hc
      clear hc
      go_wp2
      go_end0
      have h := HE.out
      rw [sift_end (by have := HC.out; omega)] at h
      exact ⟨rfl, by rw [← h]; exact hS⟩
    · have hch' : decide ((hi : Int) ≤ (c : Int)) = false := decide_eq_false (by omega)
      obtain ⟨q, hq⟩ : ∃ q, q = first + r := ⟨_, rfl⟩
      obtain ⟨p, hp⟩ : ∃ p, p = first + c := ⟨_, rfl⟩
      have hq2 : (first : Int) + (r : Int) = (q : Nat) := by omega
      have hp2 : (first : Int) + (c : Int) = (p : Nat) := by omega
      obtain ⟨x, hx⟩ : ∃ x, x = d'[q]! := ⟨_, rfl⟩
      obtain ⟨y, hy⟩ : ∃ y, y = d'[p]! := ⟨_, rfl⟩
      have cx := hS.cell (by omega) hx
      have cy := hS.cell (by omega) hy
      have fx := hS.free q
      have fy := hS.free p
      have hqn : q < n := by omega
      have wq := wrapN q (by omega)
      have wp := wrapN p (by omega)
      have hpn : p < n := by omega
      have hqp : q ≠ p := by omega
      have hpq : p ≠ q := by omega
      obtain ⟨c1, hc1⟩ : ∃ c1, c1 = c + 1 := ⟨_, rfl⟩
      obtain ⟨p1, hp1⟩ : ∃ p1, p1 = p + 1 := ⟨_, rfl⟩
      have hc12 : (c : Int) + 1 = (c1 : Nat) := by omega
      have wc1 := wrapN c1 (by omega)
      have wp1 := wrapN p1 (by omega)
      have HX := hide hx
      have Hy := hide hy
      have HQ : Hid (q = first + r) := hq
      have Hp : Hid (p = first + c) := hp
      have Hp1 : Hid (p1 = first + c1) := by rw [hp1, hc1, hp]; exact Nat.add_assoc _ _ _
      have HS := hide hS
      have HC := hide hc
      have HC1 := hide hc1
      have HP1 := hide hp1
      clear hx hy hq hp
      by_cases hlast : c1 < hi
      · have hlast' : decide ((c1 : Int) < (hi : Int)) = true := decide_eq_true (by omega)
        have hp12 : (p : Int) + 1 = (p1 : Nat) := by omega
        have hp13 : (first : Int) + (c1 : Int) = (p1 : Nat) := by have := Hp1.out; omega
        have hp1n : p1 < n := by have := Hp1.out; omega
        have hq1 : q ≠ p1 := by have := HQ.out; have := Hp1.out; omega
        have h1q : p1 ≠ q := by have := HQ.out; have := Hp1.out; omega
        obtain ⟨z, hz⟩ : ∃ z, z = d'[p1]! := ⟨_, rfl⟩
        have cz := hS.cell (by omega) hz
        have fz := hS.free p1
        have Hz := hide hz
        clear hS hc hc1 hp1 hz
        by_cases hl1 : lt y z = true
        · have hL1 : lt y z = true := hl1
          have L1 : Hid (∀ w, Calls Yba.prog 31 #[.int .u64 y, .int .u64 z] w fun e w' => e = .returned (.bool true) ∧ ∃ m, w' = w.drewN m) := by intro w; rw [← hL1]; exact HL.out y z w
          by_cases hl2 : lt x z = true
          · have hL2 : lt x z = true := hl2
            have L2 : Hid (∀ w, Calls Yba.prog 31 #[.int .u64 x, .int .u64 z] w fun e w' => e = .returned (.bool true) ∧ ∃ m, w' = w.drewN m) := by intro w; rw [← hL2]; exact HL.out x z w
            go_wp2_with fail
            go_quiet ((go_at_call 31; exact Calls.quiet_of (L1.out _)))
            have hS2 := HS.out.drewN nq
            clear HS cx cy fx fy cz fz
            generalize wr.drewN nq = wq at hS2 ⊢
            have cx := hS2.cell (by omega) HX.out
            have cy := hS2.cell (by omega) Hy.out
            have cz := hS2.cell (by omega) Hz.out
            have fx := hS2.free q
            have fy := hS2.free p
            have fz := hS2.free p1
            have HS := hide hS2
            clear hS2
            go_wp2_with fail
            go_quiet ((go_at_call 31; exact Calls.quiet_of (L2.out _)))
            go_wp2_with fail
            go_region
            all_goals
              go_wp2
              go_roundw
              case rel => exact ⟨c1, Sort.swp d' q p1, by have := HC.out; have := HC1.out; omega, rfl, by rw [Sort.size_swp]; exact hd', (HS.out.drewN _).swp (by omega) (by omega) HX.out Hz.out, by have h := HE.out; rw [sift_eq (ch := c1) (by have := HC.out; omega) (.inl ⟨by have := HC.out; have := HC1.out; omega, by rw [← HC.out, ← Hp.out, ← HP1.out, ← Hy.out, ← Hz.out]; exact hl1, by rw [HC1.out, HC.out]⟩)] at h; rw [← HQ.out, ← Hp1.out, ← HX.out, ← Hz.out, hl2] at h; simpa using h⟩
              case measure => simp [intOf]; have := HC.out; have := HC1.out; omega
          · have hL2 : lt x z = false := by simpa using hl2
            have L2 : Hid (∀ w, Calls Yba.prog 31 #[.int .u64 x, .int .u64 z] w fun e w' => e = .returned (.bool false) ∧ ∃ m, w' = w.drewN m) := by intro w; rw [← hL2]; exact HL.out x z w
            go_wp2_with fail
            go_quiet ((go_at_call 31; exact Calls.quiet_of (L1.out _)))
            have hS2 := HS.out.drewN nq
            clear HS cx cy fx fy cz fz
            generalize wr.drewN nq = wq at hS2 ⊢
            have cx := hS2.cell (by omega) HX.out
            have cy := hS2.cell (by omega) Hy.out
            have cz := hS2.cell (by omega) Hz.out
            have fx := hS2.free q
            have fy := hS2.free p
            have fz := hS2.free p1
            have HS := hide hS2
            clear hS2
            go_wp2_with fail
            go_quiet ((go_at_call 31; exact Calls.quiet_of (L2.out _)))
            go_wp2
            refine bodyPost_ret (results_none (by rfl) _ _ _) rfl ?_
            exact ⟨rfl, by have h := HE.out; rw [sift_eq (ch := c1) (by have := HC.out; omega) (.inl ⟨by have := HC.out; have := HC1.out; omega, by rw [← HC.out, ← Hp.out, ← HP1.out, ← Hy.out, ← Hz.out]; exact hl1, by rw [HC1.out, HC.out]⟩)] at h; rw [← HQ.out, ← Hp1.out, ← HX.out, ← Hz.out, hL2] at h; rw [← h]; simpa using HS.out.drewN _⟩
        · have hL1 : lt y z = false := by simpa using hl1
          have L1 : Hid (∀ w, Calls Yba.prog 31 #[.int .u64 y, .int .u64 z] w fun e w' => e = .returned (.bool false) ∧ ∃ m, w' = w.drewN m) := by intro w; rw [← hL1]; exact HL.out y z w
          by_cases hl2 : lt x y = true
          · have hL2 : lt x y = true := hl2
            have L2 : Hid (∀ w, Calls Yba.prog 31 #[.int .u64 x, .int .u64 y] w fun e w' => e = .returned (.bool true) ∧ ∃ m, w' = w.drewN m) := by intro w; rw [← hL2]; exact HL.out x y w
            go_wp2_with fail
            go_quiet ((go_at_call 31; exact Calls.quiet_of (L1.out _)))
            have hS2 := HS.out.drewN nq
            clear HS cx cy fx fy cz fz
            generalize wr.drewN nq = wq at hS2 ⊢
            have cx := hS2.cell (by omega) HX.out
            have cy := hS2.cell (by omega) Hy.out
            have cz := hS2.cell (by omega) Hz.out
            have fx := hS2.free q
            have fy := hS2.free p
            have fz := hS2.free p1
            have HS := hide hS2
            clear hS2
            go_wp2_with fail
            go_quiet ((go_at_call 31; exact Calls.quiet_of (L2.out _)))
            go_wp2_with fail
            go_region
            all_goals
              go_wp2
              go_roundw
              case rel => exact ⟨c, Sort.swp d' q p, by have := HC.out; have := HC1.out; omega, rfl, by rw [Sort.size_swp]; exact hd', (HS.out.drewN _).swp (by omega) (by omega) HX.out Hy.out, by have h := HE.out; rw [sift_eq (ch := c) (by have := HC.out; omega) (.inr ⟨.inr (by rw [← HC.out, ← Hp.out, ← HP1.out, ← Hy.out, ← Hz.out]; exact hL1), HC.out⟩)] at h; rw [← HQ.out, ← Hp.out, ← HX.out, ← Hy.out, hl2] at h; simpa using h⟩
              case measure => simp [intOf]; have := HC.out; have := HC1.out; omega
          · have hL2 : lt x y = false := by simpa using hl2
            have L2 : Hid (∀ w, Calls Yba.prog 31 #[.int .u64 x, .int .u64 y] w fun e w' => e = .returned (.bool false) ∧ ∃ m, w' = w.drewN m) := by intro w; rw [← hL2]; exact HL.out x y w
            go_wp2_with fail
            go_quiet ((go_at_call 31; exact Calls.quiet_of (L1.out _)))
            have hS2 := HS.out.drewN nq
            clear HS cx cy fx fy cz fz
            generalize wr.drewN nq = wq at hS2 ⊢
            have cx := hS2.cell (by omega) HX.out
            have cy := hS2.cell (by omega) Hy.out
            have cz := hS2.cell (by omega) Hz.out
            have fx := hS2.free q
            have fy := hS2.free p
            have fz := hS2.free p1
            have HS := hide hS2
            clear hS2
            go_wp2_with fail
            go_quiet ((go_at_call 31; exact Calls.quiet_of (L2.out _)))
            go_wp2
            refine bodyPost_ret (results_none (by rfl) _ _ _) rfl ?_
            exact ⟨rfl, by have h := HE.out; rw [sift_eq (ch := c) (by have := HC.out; omega) (.inr ⟨.inr (by rw [← HC.out, ← Hp.out, ← HP1.out, ← Hy.out, ← Hz.out]; exact hL1), HC.out⟩)] at h; rw [← HQ.out, ← Hp.out, ← HX.out, ← Hy.out, hL2] at h; rw [← h]; simpa using HS.out.drewN _⟩
      · have hlast' : decide ((c1 : Int) < (hi : Int)) = false := decide_eq_false (by omega)
        clear hS hc hc1 hp1
        by_cases hl2 : lt x y = true
        · have hL2 : lt x y = true := hl2
          have L2 : Hid (∀ w, Calls Yba.prog 31 #[.int .u64 x, .int .u64 y] w fun e w' => e = .returned (.bool true) ∧ ∃ m, w' = w.drewN m) := by intro w; rw [← hL2]; exact HL.out x y w
          go_wp2_with fail
          go_quiet (fail)
          have hS2 := HS.out.drewN nq
          clear HS cx cy fx fy
          generalize wr.drewN nq = wq at hS2 ⊢
          have cx := hS2.cell (by omega) HX.out
          have cy := hS2.cell (by omega) Hy.out
          have fx := hS2.free q
          have fy := hS2.free p
          have HS := hide hS2
          clear hS2
          go_wp2_with fail
          go_quiet ((go_at_call 31; exact Calls.quiet_of (L2.out _)))
          go_wp2_with fail
          go_region
          all_goals
            go_wp2
            go_roundw
            case rel => exact ⟨c, Sort.swp d' q p, by have := HC.out; have := HC1.out; omega, rfl, by rw [Sort.size_swp]; exact hd', (HS.out.drewN _).swp (by omega) (by omega) HX.out Hy.out, by have h := HE.out; rw [sift_eq (ch := c) (by have := HC.out; omega) (.inr ⟨.inl (by have := HC.out; have := HC1.out; omega), HC.out⟩)] at h; rw [← HQ.out, ← Hp.out, ← HX.out, ← Hy.out, hl2] at h; simpa using h⟩
            case measure => simp [intOf]; have := HC.out; have := HC1.out; omega
        · have hL2 : lt x y = false := by simpa using hl2
          have L2 : Hid (∀ w, Calls Yba.prog 31 #[.int .u64 x, .int .u64 y] w fun e w' => e = .returned (.bool false) ∧ ∃ m, w' = w.drewN m) := by intro w; rw [← hL2]; exact HL.out x y w
          go_wp2_with fail
          go_quiet (fail)
          have hS2 := HS.out.drewN nq
          clear HS cx cy fx fy
          generalize wr.drewN nq = wq at hS2 ⊢
          have cx := hS2.cell (by omega) HX.out
          have cy := hS2.cell (by omega) Hy.out
          have fx := hS2.free q
          have fy := hS2.free p
          have HS := hide hS2
          clear hS2
          go_wp2_with fail
          go_quiet ((go_at_call 31; exact Calls.quiet_of (L2.out _)))
          go_wp2
          refine bodyPost_ret (results_none (by rfl) _ _ _) rfl ?_
          exact ⟨rfl, by have h := HE.out; rw [sift_eq (ch := c) (by have := HC.out; omega) (.inr ⟨.inl (by have := HC.out; have := HC1.out; omega), HC.out⟩)] at h; rw [← HQ.out, ← Hp.out, ← HX.out, ← Hy.out, hL2] at h; rw [← h]; simpa using HS.out.drewN _⟩
end Go.Proofs.Ybulkcsvu
