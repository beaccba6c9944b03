/-
  OUR OWN. 'partitionEqualOrdered' (32) at uint64.
-/
import Derived.Test.YbulkcsvuSr
import Derived.Deep.CutBlock
namespace Go.Proofs.Ybulkcsvu
open Go.RowKit

theorem scanUp_go {p : Int → Bool} {d : Array Int} {j k : Nat} (h : k ≤ j) (hp : p d[k]! = true) : Sort.scanUp p d j k = Sort.scanUp p d j (k + 1) := by
  rw [Sort.scanUp, hp]
  simp [h]
theorem scanUp_end {p : Int → Bool} {d : Array Int} {j k : Nat} (h : ¬ k ≤ j ∨ p d[k]! = false) : Sort.scanUp p d j k = k := by
  rw [Sort.scanUp]
  rcases h with h | h <;> simp [h]
theorem scanDown_go {p : Int → Bool} {d : Array Int} {i k k1 : Nat} (hk : k = k1 + 1) (h : i ≤ k) (hp : p d[k]! = true) : Sort.scanDown p d i k = Sort.scanDown p d i k1 := by
  subst hk
  rw [Sort.scanDown, hp]
  simp [h]
theorem scanDown_end {p : Int → Bool} {d : Array Int} {i k : Nat} (h : ¬ i ≤ k ∨ p d[k]! = false) : Sort.scanDown p d i k = k := by
  cases k with
  | zero => rfl
  | succ k =>
    rw [Sort.scanDown]
    rcases h with h | h <;> simp [h]

theorem scanUp_le {p : Int → Bool} {d : Array Int} {j : Nat} : ∀ {i : Nat}, i ≤ j + 2 → Sort.scanUp p d j i ≤ j + 2 := by
  intro i h
  generalize hm : j + 2 - i = m
  induction m generalizing i with
  | zero => rw [scanUp_end (.inl (by omega))]; exact h
  | succ m ih =>
    by_cases hg : i ≤ j ∧ p d[i]! = true
    · rw [scanUp_go hg.1 hg.2]; exact ih (by omega) (by omega)
    · rw [scanUp_end]
      · exact h
      · by_cases h1 : i ≤ j
        · exact .inr (by simpa [h1] using hg)
        · exact .inl h1
theorem scanDown_ge {p : Int → Bool} {d : Array Int} {i a : Nat} (hai : a < i) : ∀ {k : Nat}, i ≤ k + 2 → a ≤ k → i ≤ Sort.scanDown p d i k + 2 ∧ a ≤ Sort.scanDown p d i k
  | 0, h, h2 => ⟨h, h2⟩
  | k + 1, h, h2 => by
    by_cases hg : i ≤ k + 1 ∧ p d[k + 1]! = true
    · rw [scanDown_go rfl hg.1 hg.2]; exact scanDown_ge hai (by omega) (by omega)
    · rw [scanDown_end]
      · exact ⟨h, h2⟩
      · by_cases h1 : i ≤ k + 1
        · exact .inr (by simpa [h1] using hg)
        · exact .inl h1

set_option maxRecDepth 100000 in
set_option maxHeartbeats 1000000 in
theorem partEq_walk (B blk n cap a b pivot : Nat) (d0 : Array Int) (sp : List Value) (w wr0 : World) (hS0 : SR B w wr0 blk d0 sp) (hd0 : d0.size = n) (ha : a ≤ pivot) (hpb : pivot < b) (hbn : b ≤ n) (hn5 : n ≤ 5000) :
    Calls Yba.prog 32 #[.slice (some ⟨blk, 0, none⟩) n cap, .int .i64 a, .int .i64 b, .int .i64 pivot] wr0 fun e w' => e = .returned (.int .i64 (Sort.partitionEqual lt d0 a b pivot).1) ∧ SR B w w' blk (Sort.partitionEqual lt d0 a b pivot).2 sp := by
  have HL := hide fun x y w => less x y w
  obtain ⟨r1, r2, hR⟩ : ∃ r1 r2, (r1, r2) = Sort.partitionEqual lt d0 a b pivot := ⟨_, _, rfl⟩
  rw [← hR]
  rw [Sort.partitionEqual] at hR
  obtain ⟨b1, hb1⟩ : ∃ b1, b1 = b - 1 := ⟨_, rfl⟩
  have hb12 : (b : Int) - 1 = (b1 : Nat) := by omega
  rw [← hb1] at hR
  have HR := hide hR
  have HB1 := hide hb1
  have HS := hide hS0
  have hbn1 : b1 < n := by omega
  have hab1 : a ≤ b1 := by omega
  clear hR hb1 hS0
  go_enter Yba.func32, Yba.ntmps32
  go_upto_region 1 with fail
  go_cut [] (fun wc => SR B w wc blk (Sort.swp d0 a pivot) sp)
  case first =>
    obtain ⟨u, hu⟩ : ∃ u, u = d0[a]! := ⟨_, rfl⟩
    obtain ⟨v, hv⟩ : ∃ v, v = d0[pivot]! := ⟨_, rfl⟩
    have cu := HS.out.cell (by omega) hu
    have cv := HS.out.cell (by omega) hv
    have fu := HS.out.free a
    have fv := HS.out.free pivot
    have HU := hide hu
    have HV := hide hv
    clear hu hv
    by_cases hij : a = pivot
    · subst hij
      obtain rfl : u = v := HU.out.trans HV.out.symm
      go_region
      all_goals
        go_wp2_with fail
        go_meet
        case rel => exact (HS.out.drewN _).swp (by omega) (by omega) HU.out HV.out
    · have hji : pivot ≠ a := fun h => hij h.symm
      go_region
      all_goals
        go_wp2_with fail
        go_meet
        case rel => exact (HS.out.drewN _).swp (by omega) (by omega) HU.out HV.out
  case rest =>
  have hS := hcut
  clear hcut HS
  have hds : (Sort.swp d0 a pivot).size = n := by rw [Sort.size_swp]; exact hd0
  go_wp2
  go_loopw [9, 10] (fun i j wr => ∃ (i' j' : Nat) (d : Array Int), a < i' ∧ i' ≤ n ∧ a ≤ j' ∧ j' < n ∧ i' ≤ j' + 2 ∧ i = .int .i64 i' ∧ j = .int .i64 j' ∧ d.size = n ∧ SR B w wr blk d sp ∧ Sort.partEqLoop lt a i' j' d = (r1, r2)) (fun i j _ => (intOf j).toNat + 2 - (intOf i).toNat)
  case atStart => exact ⟨a + 1, b1, _, by omega, by omega, by omega, by omega, by omega, by go_num, rfl, hds, hS, HR.out.symm⟩
  case round =>
    clear hS hds HR
    obtain ⟨i, j, d, hai, hin, haj, hjn, hij2, rfl, rfl, hds, hS, hE⟩ := hrel
    rw [Sort.partEqLoop_eq] at hE
    obtain ⟨pv, hpv⟩ : ∃ pv, pv = d[a]! := ⟨_, rfl⟩
    rw [← hpv] at hE
    obtain ⟨I, hI⟩ : ∃ I, I = Sort.scanUp (fun x => !lt pv x) d j i := ⟨_, rfl⟩
    obtain ⟨J, hJ⟩ : ∃ J, J = Sort.scanDown (fun x => lt pv x) d I j := ⟨_, rfl⟩
    rw [← hI, ← hJ] at hE
    have hI1 : i ≤ I := by rw [hI]; exact Sort.scanUp_ge _ d j i
    have hJ1 : J ≤ j := by rw [hJ]; exact Sort.scanDown_le _ d I j
    have hI2 : I ≤ j + 2 := by rw [hI]; exact scanUp_le hij2
    have hJ2 : I ≤ J + 2 ∧ a ≤ J := by rw [hJ]; exact scanDown_ge (by omega) (by omega) (by omega)
    have HPV := hide hpv
    have HI := hide hI
    have HJ := hide hJ
    have HE := hide hE
    have HS := hide hS
    clear hpv hI hJ hE hS
    go_upto_block 2 with fail
    go_cut [9] (fun iv wc => iv = .int .i64 ((I : Nat) : Int) ∧ SR B w wc blk d sp)
    case first =>
      go_wp2_with fail
      go_loopw [9] (fun iv wq => ∃ k : Nat, i ≤ k ∧ k ≤ n ∧ iv = .int .i64 k ∧ SR B w wq blk d sp ∧ Sort.scanUp (fun x => !lt pv x) d j k = I) (fun iv _ => j + 1 - (intOf iv).toNat)
      case atStart => exact ⟨i, Nat.le_refl _, by omega, rfl, HS.out, HI.out.symm⟩
      case round =>
        clear HS
        obtain ⟨k, hk0, hkn, rfl, hS1, hE⟩ := hrel
        have HE := hide hE
        clear hE
        by_cases hkj : k ≤ j
        · have hg1 : decide (k ≤ j) = true := decide_eq_true hkj
          have hg2 : decide ((k : Int) ≤ (j : Int)) = true := decide_eq_true (by omega)
          obtain ⟨x, hx⟩ : ∃ x, x = d[k]! := ⟨_, rfl⟩
          have cx := hS1.cell (by omega) hx
          have cp := hS1.cell (by omega) HPV.out
          have hkn2 : k < n := by omega
          have HX := hide hx
          have HS1 := hide hS1
          clear hx hS1
          by_cases hl : lt pv x = false
          · have L1 : Hid (∀ w, Calls Yba.prog 31 #[.int .u64 pv, .int .u64 x] w fun e w' => e = .returned (.bool false) ∧ ∃ m, w' = w.drewN m) := by intro w; rw [← hl]; exact HL.out pv x w
            go_wp2_with fail
            go_quiet ((go_at_call 31; exact Calls.quiet_of (L1.out _)))
            go_wp2
            go_roundw
            case rel => exact ⟨k + 1, by omega, by omega, by go_num, (HS1.out.drewN _), by rw [← HE.out]; exact (scanUp_go hkj (by rw [← HX.out]; simp [hl])).symm⟩
            case measure => simp [intOf]; omega
          · have hl' : lt pv x = true := by simpa using hl
            have L1 : Hid (∀ w, Calls Yba.prog 31 #[.int .u64 pv, .int .u64 x] w fun e w' => e = .returned (.bool true) ∧ ∃ m, w' = w.drewN m) := by intro w; rw [← hl']; exact HL.out pv x w
            go_wp2_with fail
            go_quiet ((go_at_call 31; exact Calls.quiet_of (L1.out _)))
            go_wp2
            go_meet
            case rel => exact ⟨congrArg (Value.int .i64) (congrArg Int.ofNat ((scanUp_end (.inr (by rw [← HX.out]; simp [hl']))).symm.trans HE.out)), HS1.out.drewN _⟩
        · have hg1 : decide (k ≤ j) = false := decide_eq_false hkj
          have hg2 : decide ((k : Int) ≤ (j : Int)) = false := decide_eq_false (by omega)
          have HS1 := hide hS1
          clear hS1
          go_wp2_with fail
          go_quiet (fail)
          go_wp2
          go_meet
          case rel => exact ⟨congrArg (Value.int .i64) (congrArg Int.ofNat ((scanUp_end (.inl (by omega))).symm.trans HE.out)), HS1.out.drewN _⟩
    case rest =>
    obtain ⟨rfl, hS⟩ := hcut
    clear HS
    have HS := hide hS
    clear hS
    go_upto_block 4 with fail
    go_cut [10] (fun iv wc => iv = .int .i64 ((J : Nat) : Int) ∧ SR B w wc blk d sp)
    case first =>
      go_wp2_with fail
      go_loopw [10] (fun iv wq => ∃ k : Nat, k ≤ j ∧ iv = .int .i64 k ∧ SR B w wq blk d sp ∧ Sort.scanDown (fun x => lt pv x) d I k = J) (fun iv _ => (intOf iv).toNat)
      case atStart => exact ⟨j, Nat.le_refl _, rfl, HS.out, HJ.out.symm⟩
      case round =>
        clear HS
        obtain ⟨k, hkh, rfl, hS1, hE⟩ := hrel
        have HE := hide hE
        clear hE
        by_cases hkj : I ≤ k
        · have hg1 : decide (I ≤ k) = true := decide_eq_true hkj
          have hg2 : decide ((I : Int) ≤ (k : Int)) = true := decide_eq_true (by omega)
          obtain ⟨k1, hk1⟩ : ∃ k1, k = k1 + 1 := ⟨k - 1, by omega⟩
          have hk12 : (k : Int) - 1 = (k1 : Nat) := by omega
          have HK := hide hk1
          clear hk1
          obtain ⟨x, hx⟩ : ∃ x, x = d[k]! := ⟨_, rfl⟩
          have cx := hS1.cell (by omega) hx
          have cp := hS1.cell (by omega) HPV.out
          have hkn2 : k < n := by omega
          have HX := hide hx
          have HS1 := hide hS1
          clear hx hS1
          by_cases hl : lt pv x = true
          · have L1 : Hid (∀ w, Calls Yba.prog 31 #[.int .u64 pv, .int .u64 x] w fun e w' => e = .returned (.bool true) ∧ ∃ m, w' = w.drewN m) := by intro w; rw [← hl]; exact HL.out pv x w
            go_wp2_with fail
            go_quiet ((go_at_call 31; exact Calls.quiet_of (L1.out _)))
            go_wp2
            go_roundw
            case rel => exact ⟨k1, by omega, rfl, (HS1.out.drewN _), by rw [← HE.out]; exact (scanDown_go HK.out hkj (by rw [← HX.out]; simp [hl])).symm⟩
            case measure => simp [intOf]; omega
          · have hl' : lt pv x = false := by simpa using hl
            have L1 : Hid (∀ w, Calls Yba.prog 31 #[.int .u64 pv, .int .u64 x] w fun e w' => e = .returned (.bool false) ∧ ∃ m, w' = w.drewN m) := by intro w; rw [← hl']; exact HL.out pv x w
            go_wp2_with fail
            go_quiet ((go_at_call 31; exact Calls.quiet_of (L1.out _)))
            go_wp2
            go_meet
            case rel => exact ⟨congrArg (Value.int .i64) (congrArg Int.ofNat ((scanDown_end (.inr (by rw [← HX.out]; simp [hl']))).symm.trans HE.out)), HS1.out.drewN _⟩
        · have hg1 : decide (I ≤ k) = false := decide_eq_false hkj
          have hg2 : decide ((I : Int) ≤ (k : Int)) = false := decide_eq_false (by omega)
          have HS1 := hide hS1
          clear hS1
          go_wp2_with fail
          go_quiet (fail)
          go_wp2
          go_meet
          case rel => exact ⟨congrArg (Value.int .i64) (congrArg Int.ofNat ((scanDown_end (.inl (by omega))).symm.trans HE.out)), HS1.out.drewN _⟩
    case rest =>
    obtain ⟨rfl, hS⟩ := hcut
    clear HS
    have HS := hide hS
    clear hS
    by_cases hIJ : J < I
    · have hg1 : decide ((J : Int) < (I : Int)) = true := decide_eq_true (by omega)
      have h := HE.out
      rw [if_pos hIJ, Prod.mk.injEq] at h
      obtain ⟨rfl, rfl⟩ := h
      go_wp2
      go_ret
      exact ⟨rfl, HS.out⟩
    · have hg1 : decide ((J : Int) < (I : Int)) = false := decide_eq_false (by omega)
      have h := HE.out
      rw [if_neg hIJ] at h
      have HE2 := hide h
      have hJn : J < n := by omega
      have hIn : I < n := by omega
      clear h HE
      go_upto_region 8 with fail
      go_cut [] (fun wc => SR B w wc blk (Sort.swp d I J) sp)
      case first =>
        obtain ⟨u, hu⟩ : ∃ u, u = d[I]! := ⟨_, rfl⟩
        obtain ⟨v, hv⟩ : ∃ v, v = d[J]! := ⟨_, rfl⟩
        have cu := HS.out.cell (by omega) hu
        have cv := HS.out.cell (by omega) hv
        have fu := HS.out.free I
        have fv := HS.out.free J
        have HU := hide hu
        have HV := hide hv
        clear hu hv
        by_cases hij : I = J
        · subst hij
          obtain rfl : u = v := HU.out.trans HV.out.symm
          go_region
          all_goals
            go_wp2_with fail
            go_meet
            case rel => exact (HS.out.drewN _).swp (by omega) (by omega) HU.out HV.out
        · have hji : J ≠ I := fun h => hij h.symm
          go_region
          all_goals
            go_wp2_with fail
            go_meet
            case rel => exact (HS.out.drewN _).swp (by omega) (by omega) HU.out HV.out
      case rest =>
      have hS := hcut
      clear hcut HS
      obtain ⟨J1, hJ1'⟩ : ∃ J1, J1 = J - 1 := ⟨_, rfl⟩
      have hJ12 : (J : Int) - 1 = (J1 : Nat) := by omega
      have HJ1 := hide hJ1'
      clear hJ1'
      go_wp2
      go_roundw
      case rel => exact ⟨I + 1, J1, _, by omega, by omega, by have := HJ1.out; omega, by omega, by have := HJ1.out; omega, by go_num, rfl, by rw [Sort.size_swp]; exact hds, hS, by rw [HJ1.out]; exact HE2.out⟩
      case measure => simp [intOf]; have := HJ1.out; omega
end Go.Proofs.Ybulkcsvu
