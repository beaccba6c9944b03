/-
  OUR OWN. 'partitionOrdered' (33) at uint64.
-/
import Derived.Test.YbulkcsvuPeq
namespace Go.Proofs.Ybulkcsvu
open Go.RowKit

set_option maxRecDepth 100000 in
set_option maxHeartbeats 2000000 in
theorem part_walk (B blk n cap a b pivot : Nat) (d0 : Array Int) (sp : List Value) (w wr0 : World) (hS0 : SR B w wr0 blk d0 sp) (hd0 : d0.size = n) (ha : a ≤ pivot) (hpb : pivot < b) (hbn : b ≤ n) (hn5 : n ≤ 5000) :
    Calls Yba.prog 33 #[.slice (some ⟨blk, 0, none⟩) n cap, .int .i64 a, .int .i64 b, .int .i64 pivot] wr0 fun e w' => e = .returned (.tuple #[.int .i64 (Sort.partition lt d0 a b pivot).1, .bool (Sort.partition lt d0 a b pivot).2.1]) ∧ SR B w w' blk (Sort.partition lt d0 a b pivot).2.2 sp := by
  have HL := hide fun x y w => less x y w
  obtain ⟨r1, r2, r3, hR⟩ : ∃ r1 r2 r3, (r1, r2, r3) = Sort.partition lt d0 a b pivot := ⟨_, _, _, rfl⟩
  rw [← hR]
  rw [Sort.partition] at hR
  obtain ⟨b1, hb1⟩ : ∃ b1, b1 = b - 1 := ⟨_, rfl⟩
  have hb12 : (b : Int) - 1 = (b1 : Nat) := by omega
  simp only [← hb1] at hR
  have HR := hide hR
  have HB1 := hide hb1
  have HS := hide hS0
  have hbn1 : b1 < n := by omega
  have hab1 : a ≤ b1 := by omega
  clear hR hb1 hS0
  obtain ⟨a1, ha1⟩ : ∃ a1, a1 = a + 1 := ⟨_, rfl⟩
  have ha12 : (a : Int) + 1 = (a1 : Nat) := by omega
  have wa1 := wrapN a1 (by omega)
  go_enter Yba.func33, Yba.ntmps33
  go_upto_region 1 with fail
  go_cut [] (fun wc => SR B w wc blk (Sort.swp d0 a pivot) sp)
  case first =>
    obtain ⟨u, hu⟩ : ∃ u, u = d0[a]! := ⟨_, rfl⟩
    obtain ⟨v, hv⟩ : ∃ v, v = d0[pivot]! := ⟨_, rfl⟩
    have cu := HS.out.cell (by omega) hu
    have cv := HS.out.cell (by omega) hv
    have fu := HS.out.free a
    have fv := HS.out.free pivot
    have HU := hide hu
    have HV := hide hv
    clear hu hv
    by_cases hij : a = pivot
    · subst hij
      obtain rfl : u = v := HU.out.trans HV.out.symm
      go_region
      all_goals
        go_wp2_with fail
        go_meet
        case rel => exact (HS.out.drewN _).swp (by omega) (by omega) HU.out HV.out
    · have hji : pivot ≠ a := fun h => hij h.symm
      go_region
      all_goals
        go_wp2_with fail
        go_meet
        case rel => exact (HS.out.drewN _).swp (by omega) (by omega) HU.out HV.out
  case rest =>
  have hS := hcut
  clear hcut HS
  obtain ⟨d, hd⟩ : ∃ d, d = Sort.swp d0 a pivot := ⟨_, rfl⟩
  have hds : d.size = n := by rw [hd, Sort.size_swp]; exact hd0
  have hR := HR.out
  rw [← hd, ← ha1] at hR
  rw [← hd] at hS
  obtain ⟨pv, hpv⟩ : ∃ pv, pv = d[a]! := ⟨_, rfl⟩
  rw [← hpv] at hR
  obtain ⟨I, hI⟩ : ∃ I, I = Sort.scanUp (fun x => lt x pv) d b1 a1 := ⟨_, rfl⟩
  obtain ⟨J, hJ⟩ : ∃ J, J = Sort.scanDown (fun x => !lt x pv) d I b1 := ⟨_, rfl⟩
  rw [← hI, ← hJ] at hR
  have hI1 : a1 ≤ I := by rw [hI]; exact Sort.scanUp_ge _ d b1 a1
  have hJ1 : J ≤ b1 := by rw [hJ]; exact Sort.scanDown_le _ d I b1
  have hI2 : I ≤ b1 + 2 := by rw [hI]; exact scanUp_le (by omega)
  have hJ2 : I ≤ J + 2 ∧ a ≤ J := by rw [hJ]; exact scanDown_ge (by omega) (by omega) (by omega)
  have hai : a < I := by omega
  have ha1n : a1 ≤ n := by omega
  have HPV := hide hpv
  have HI := hide hI
  have HJ := hide hJ
  have HE := hide hR
  have HS := hide hS
  clear hd hpv hI hJ hR hS HR ha1
  go_upto_block 0 with fail
  go_cut [10] (fun iv wc => iv = .int .i64 ((I : Nat) : Int) ∧ SR B w wc blk d sp)
  case first =>
    go_wp2_with fail
    go_loopw [10] (fun iv wq => ∃ k : Nat, a1 ≤ k ∧ k ≤ n ∧ iv = .int .i64 k ∧ SR B w wq blk d sp ∧ Sort.scanUp (fun x => lt x pv) d b1 k = I) (fun iv _ => b1 + 1 - (intOf iv).toNat)
    case atStart => exact ⟨a1, Nat.le_refl _, by omega, rfl, HS.out, HI.out.symm⟩
    case round =>
      clear HS
      obtain ⟨k, hk0, hkn, rfl, hS1, hE⟩ := hrel
      have HE := hide hE
      clear hE
      by_cases hkj : k ≤ b1
      · have hg1 : decide (k ≤ b1) = true := decide_eq_true hkj
        have hg2 : decide ((k : Int) ≤ (b1 : Int)) = true := decide_eq_true (by omega)
        obtain ⟨x, hx⟩ : ∃ x, x = d[k]! := ⟨_, rfl⟩
        have cx := hS1.cell (by omega) hx
        have cp := hS1.cell (by omega) HPV.out
        have hkn2 : k < n := by omega
        have HX := hide hx
        have HS1 := hide hS1
        clear hx hS1
        by_cases hl : lt x pv = true
        · have L1 : Hid (∀ w, Calls Yba.prog 31 #[.int .u64 x, .int .u64 pv] w fun e w' => e = .returned (.bool true) ∧ ∃ m, w' = w.drewN m) := by intro w; rw [← hl]; exact HL.out x pv w
          go_wp2_with fail
          go_quiet ((go_at_call 31; exact Calls.quiet_of (L1.out _)))
          go_wp2
          go_roundw
          case rel => exact ⟨k + 1, by omega, by omega, by go_num, (HS1.out.drewN _), by rw [← HE.out]; exact (scanUp_go hkj (by rw [← HX.out]; simp [hl])).symm⟩
          case measure => simp [intOf]; omega
        · have hl' : lt x pv = false := by simpa using hl
          have L1 : Hid (∀ w, Calls Yba.prog 31 #[.int .u64 x, .int .u64 pv] w fun e w' => e = .returned (.bool false) ∧ ∃ m, w' = w.drewN m) := by intro w; rw [← hl']; exact HL.out x pv w
          go_wp2_with fail
          go_quiet ((go_at_call 31; exact Calls.quiet_of (L1.out _)))
          go_wp2
          go_meet
          case rel => exact ⟨congrArg (Value.int .i64) (congrArg Int.ofNat ((scanUp_end (.inr (by rw [← HX.out]; simp [hl']))).symm.trans HE.out)), HS1.out.drewN _⟩
      · have hg1 : decide (k ≤ b1) = false := decide_eq_false hkj
        have hg2 : decide ((k : Int) ≤ (b1 : Int)) = false := decide_eq_false (by omega)
        have HS1 := hide hS1
        clear hS1
        go_wp2_with fail
        go_quiet (fail)
        go_wp2
        go_meet
        case rel => exact ⟨congrArg (Value.int .i64) (congrArg Int.ofNat ((scanUp_end (.inl (by omega))).symm.trans HE.out)), HS1.out.drewN _⟩
  case rest =>
  obtain ⟨rfl, hS⟩ := hcut
  clear HS
  have HS := hide hS
  clear hS
  go_upto_block 2 with fail
  go_cut [11] (fun iv wc => iv = .int .i64 ((J : Nat) : Int) ∧ SR B w wc blk d sp)
  case first =>
    go_wp2_with fail
    go_loopw [11] (fun iv wq => ∃ k : Nat, k ≤ b1 ∧ iv = .int .i64 k ∧ SR B w wq blk d sp ∧ Sort.scanDown (fun x => !lt x pv) d I k = J) (fun iv _ => (intOf iv).toNat)
    case atStart => exact ⟨b1, Nat.le_refl _, rfl, HS.out, HJ.out.symm⟩
    case round =>
      clear HS
      obtain ⟨k, hkh, rfl, hS1, hE⟩ := hrel
      have HE := hide hE
      clear hE
      by_cases hkj : I ≤ k
      · have hg1 : decide (I ≤ k) = true := decide_eq_true hkj
        have hg2 : decide ((I : Int) ≤ (k : Int)) = true := decide_eq_true (by omega)
        obtain ⟨k1, hk1⟩ : ∃ k1, k = k1 + 1 := ⟨k - 1, by omega⟩
        have hk12 : (k : Int) - 1 = (k1 : Nat) := by omega
        have HK := hide hk1
        clear hk1
        obtain ⟨x, hx⟩ : ∃ x, x = d[k]! := ⟨_, rfl⟩
        have cx := hS1.cell (by omega) hx
        have cp := hS1.cell (by omega) HPV.out
        have hkn2 : k < n := by omega
        have HX := hide hx
        have HS1 := hide hS1
        clear hx hS1
        by_cases hl : lt x pv = false
        · have L1 : Hid (∀ w, Calls Yba.prog 31 #[.int .u64 x, .int .u64 pv] w fun e w' => e = .returned (.bool false) ∧ ∃ m, w' = w.drewN m) := by intro w; rw [← hl]; exact HL.out x pv w
          go_wp2_with fail
          go_quiet ((go_at_call 31; exact Calls.quiet_of (L1.out _)))
          go_wp2
          go_roundw
          case rel => exact ⟨k1, by omega, rfl, (HS1.out.drewN _), by rw [← HE.out]; exact (scanDown_go HK.out hkj (by rw [← HX.out]; simp [hl])).symm⟩
          case measure => simp [intOf]; omega
        · have hl' : lt x pv = true := by simpa using hl
          have L1 : Hid (∀ w, Calls Yba.prog 31 #[.int .u64 x, .int .u64 pv] w fun e w' => e = .returned (.bool true) ∧ ∃ m, w' = w.drewN m) := by intro w; rw [← hl']; exact HL.out x pv w
          go_wp2_with fail
          go_quiet ((go_at_call 31; exact Calls.quiet_of (L1.out _)))
          go_wp2
          go_meet
          case rel => exact ⟨congrArg (Value.int .i64) (congrArg Int.ofNat ((scanDown_end (.inr (by rw [← HX.out]; simp [hl']))).symm.trans HE.out)), HS1.out.drewN _⟩
      · have hg1 : decide (I ≤ k) = false := decide_eq_false hkj
        have hg2 : decide ((I : Int) ≤ (k : Int)) = false := decide_eq_false (by omega)
        have HS1 := hide hS1
        clear hS1
        go_wp2_with fail
        go_quiet (fail)
        go_wp2
        go_meet
        case rel => exact ⟨congrArg (Value.int .i64) (congrArg Int.ofNat ((scanDown_end (.inl (by omega))).symm.trans HE.out)), HS1.out.drewN _⟩
  case rest =>
  obtain ⟨rfl, hS⟩ := hcut
  clear HS
  have HS := hide hS
  clear hS
  have hJn : J < n := by omega
  by_cases hIJ : J < I
  · have hg1 : decide ((J : Int) < (I : Int)) = true := decide_eq_true (by omega)
    have h := HE.out
    rw [if_pos hIJ] at h
    simp only [Prod.mk.injEq] at h
    obtain ⟨rfl, rfl, rfl⟩ := h
    go_upto_region 8 with fail
    go_cut [] (fun wc => SR B w wc blk (Sort.swp d r1 a) sp)
    case first =>
      obtain ⟨u, hu⟩ : ∃ u, u = d[r1]! := ⟨_, rfl⟩
      obtain ⟨v, hv⟩ : ∃ v, v = d[a]! := ⟨_, rfl⟩
      have cu := HS.out.cell (by omega) hu
      have cv := HS.out.cell (by omega) hv
      have fu := HS.out.free r1
      have fv := HS.out.free a
      have HU := hide hu
      have HV := hide hv
      clear hu hv
      by_cases hij : r1 = a
      · subst hij
        obtain rfl : u = v := HU.out.trans HV.out.symm
        go_region
        all_goals
          go_wp2_with fail
          go_meet
          case rel => exact (HS.out.drewN _).swp (by omega) (by omega) HU.out HV.out
      · have hji : a ≠ r1 := fun h => hij h.symm
        go_region
        all_goals
          go_wp2_with fail
          go_meet
          case rel => exact (HS.out.drewN _).swp (by omega) (by omega) HU.out HV.out
    case rest =>
    have hS := hcut
    clear hcut HS
    go_wp2
    go_ret2
    exact ⟨rfl, hS⟩
  · have hg1 : decide ((J : Int) < (I : Int)) = false := decide_eq_false (by omega)
    have h := HE.out
    rw [if_neg hIJ] at h
    have hIn : I < n := by omega
    have HE2 := hide h
    clear h HE
    go_upto_region 10 with fail
    go_cut [] (fun wc => SR B w wc blk (Sort.swp d I J) sp)
    case first =>
      obtain ⟨u, hu⟩ : ∃ u, u = d[I]! := ⟨_, rfl⟩
      obtain ⟨v, hv⟩ : ∃ v, v = d[J]! := ⟨_, rfl⟩
      have cu := HS.out.cell (by omega) hu
      have cv := HS.out.cell (by omega) hv
      have fu := HS.out.free I
      have fv := HS.out.free J
      have HU := hide hu
      have HV := hide hv
      clear hu hv
      by_cases hij : I = J
      · subst hij
        obtain rfl : u = v := HU.out.trans HV.out.symm
        go_region
        all_goals
          go_wp2_with fail
          go_meet
          case rel => exact (HS.out.drewN _).swp (by omega) (by omega) HU.out HV.out
      · have hji : J ≠ I := fun h => hij h.symm
        go_region
        all_goals
          go_wp2_with fail
          go_meet
          case rel => exact (HS.out.drewN _).swp (by omega) (by omega) HU.out HV.out
    case rest =>
    have hS := hcut
    clear hcut HS
    obtain ⟨J1, hJ1'⟩ : ∃ J1, J1 = J - 1 := ⟨_, rfl⟩
    have hJ12 : (J : Int) - 1 = (J1 : Nat) := by omega
    have h := HE2.out
    rw [← hJ1'] at h
    obtain ⟨q1, q2, hq⟩ : ∃ q1 q2, (q1, q2) = Sort.partLoop lt a (I + 1) J1 (Sort.swp d I J) := ⟨_, _, rfl⟩
    rw [← hq] at h
    simp only [Prod.mk.injEq] at h
    obtain ⟨rfl, rfl, rfl⟩ := h
    have hJ1n : J1 < n := by omega
    have haJ1 : a ≤ J1 := by omega
    have hIJ1 : I + 1 ≤ J1 + 2 := by omega
    have hds2 : (Sort.swp d I J).size = n := by rw [Sort.size_swp]; exact hds
    have HQ := hide hq
    clear hq HE2 HI HJ HPV hJ1'
    go_wp2
    go_loopw [10, 11] (fun i j wr => ∃ (i' j' : Nat) (d' : Array Int), a < i' ∧ i' ≤ n ∧ a ≤ j' ∧ j' < n ∧ i' ≤ j' + 2 ∧ i = .int .i64 i' ∧ j = .int .i64 j' ∧ d'.size = n ∧ SR B w wr blk d' sp ∧ Sort.partLoop lt a i' j' d' = (r1, q2)) (fun i j _ => (intOf j).toNat + 2 - (intOf i).toNat)
    case atStart => exact ⟨I + 1, J1, _, by omega, by omega, by omega, by omega, by omega, by go_num, rfl, hds2, hS, HQ.out.symm⟩
    case round =>
      clear hS hds2 HQ hIJ1 haJ1 hJ1n hJ12 hIJ hg1 hI1 hJ1 hI2 hJ2 hai hJn hIn hds
      obtain ⟨i, j, d, hai, hin, haj, hjn, hij2, rfl, rfl, hds, hS, hE⟩ := hrel
      rw [Sort.partLoop_eq] at hE
      obtain ⟨pv, hpv⟩ : ∃ pv, pv = d[a]! := ⟨_, rfl⟩
      rw [← hpv] at hE
      obtain ⟨I, hI⟩ : ∃ I, I = Sort.scanUp (fun x => lt x pv) d j i := ⟨_, rfl⟩
      obtain ⟨J, hJ⟩ : ∃ J, J = Sort.scanDown (fun x => !lt x pv) d I j := ⟨_, rfl⟩
      rw [← hI, ← hJ] at hE
      have hI1 : i ≤ I := by rw [hI]; exact Sort.scanUp_ge _ d j i
      have hJ1 : J ≤ j := by rw [hJ]; exact Sort.scanDown_le _ d I j
      have hI2 : I ≤ j + 2 := by rw [hI]; exact scanUp_le hij2
      have hJ2 : I ≤ J + 2 ∧ a ≤ J := by rw [hJ]; exact scanDown_ge (by omega) (by omega) (by omega)
      have HPV := hide hpv
      have HI := hide hI
      have HJ := hide hJ
      have HE := hide hE
      have HS := hide hS
      clear hpv hI hJ hE hS
      go_upto_block 6 with fail
      go_cut [10] (fun iv wc => iv = .int .i64 ((I : Nat) : Int) ∧ SR B w wc blk d sp)
      case first =>
        go_wp2_with fail
        go_loopw [10] (fun iv wq => ∃ k : Nat, i ≤ k ∧ k ≤ n ∧ iv = .int .i64 k ∧ SR B w wq blk d sp ∧ Sort.scanUp (fun x => lt x pv) d j k = I) (fun iv _ => j + 1 - (intOf iv).toNat)
        case atStart => exact ⟨i, Nat.le_refl _, by omega, rfl, HS.out, HI.out.symm⟩
        case round =>
          clear HS
          obtain ⟨k, hk0, hkn, rfl, hS1, hE⟩ := hrel
          have HE := hide hE
          clear hE
          by_cases hkj : k ≤ j
          · have hg1 : decide (k ≤ j) = true := decide_eq_true hkj
            have hg2 : decide ((k : Int) ≤ (j : Int)) = true := decide_eq_true (by omega)
            obtain ⟨x, hx⟩ : ∃ x, x = d[k]! := ⟨_, rfl⟩
            have cx := hS1.cell (by omega) hx
            have cp := hS1.cell (by omega) HPV.out
            have hkn2 : k < n := by omega
            have HX := hide hx
            have HS1 := hide hS1
            clear hx hS1
            by_cases hl : lt x pv = true
            · have L1 : Hid (∀ w, Calls Yba.prog 31 #[.int .u64 x, .int .u64 pv] w fun e w' => e = .returned (.bool true) ∧ ∃ m, w' = w.drewN m) := by intro w; rw [← hl]; exact HL.out x pv w
              go_wp2_with fail
              go_quiet ((go_at_call 31; exact Calls.quiet_of (L1.out _)))
              go_wp2
              go_roundw
              case rel => exact ⟨k + 1, by omega, by omega, by go_num, (HS1.out.drewN _), by rw [← HE.out]; exact (scanUp_go hkj (by rw [← HX.out]; simp [hl])).symm⟩
              case measure => simp [intOf]; omega
            · have hl' : lt x pv = false := by simpa using hl
              have L1 : Hid (∀ w, Calls Yba.prog 31 #[.int .u64 x, .int .u64 pv] w fun e w' => e = .returned (.bool false) ∧ ∃ m, w' = w.drewN m) := by intro w; rw [← hl']; exact HL.out x pv w
              go_wp2_with fail
              go_quiet ((go_at_call 31; exact Calls.quiet_of (L1.out _)))
              go_wp2
              go_meet
              case rel => exact ⟨congrArg (Value.int .i64) (congrArg Int.ofNat ((scanUp_end (.inr (by rw [← HX.out]; simp [hl']))).symm.trans HE.out)), HS1.out.drewN _⟩
          · have hg1 : decide (k ≤ j) = false := decide_eq_false hkj
            have hg2 : decide ((k : Int) ≤ (j : Int)) = false := decide_eq_false (by omega)
            have HS1 := hide hS1
            clear hS1
            go_wp2_with fail
            go_quiet (fail)
            go_wp2
            go_meet
            case rel => exact ⟨congrArg (Value.int .i64) (congrArg Int.ofNat ((scanUp_end (.inl (by omega))).symm.trans HE.out)), HS1.out.drewN _⟩
      case rest =>
      obtain ⟨rfl, hS⟩ := hcut
      clear HS
      have HS := hide hS
      clear hS
      go_upto_block 8 with fail
      go_cut [11] (fun iv wc => iv = .int .i64 ((J : Nat) : Int) ∧ SR B w wc blk d sp)
      case first =>
        go_wp2_with fail
        go_loopw [11] (fun iv wq => ∃ k : Nat, k ≤ j ∧ iv = .int .i64 k ∧ SR B w wq blk d sp ∧ Sort.scanDown (fun x => !lt x pv) d I k = J) (fun iv _ => (intOf iv).toNat)
        case atStart => exact ⟨j, Nat.le_refl _, rfl, HS.out, HJ.out.symm⟩
        case round =>
          clear HS
          obtain ⟨k, hkh, rfl, hS1, hE⟩ := hrel
          have HE := hide hE
          clear hE
          by_cases hkj : I ≤ k
          · have hg1 : decide (I ≤ k) = true := decide_eq_true hkj
            have hg2 : decide ((I : Int) ≤ (k : Int)) = true := decide_eq_true (by omega)
            obtain ⟨k1, hk1⟩ : ∃ k1, k = k1 + 1 := ⟨k - 1, by omega⟩
            have hk12 : (k : Int) - 1 = (k1 : Nat) := by omega
            have HK := hide hk1
            clear hk1
            obtain ⟨x, hx⟩ : ∃ x, x = d[k]! := ⟨_, rfl⟩
            have cx := hS1.cell (by omega) hx
            have cp := hS1.cell (by omega) HPV.out
            have hkn2 : k < n := by omega
            have HX := hide hx
            have HS1 := hide hS1
            clear hx hS1
            by_cases hl : lt x pv = false
            · have L1 : Hid (∀ w, Calls Yba.prog 31 #[.int .u64 x, .int .u64 pv] w fun e w' => e = .returned (.bool false) ∧ ∃ m, w' = w.drewN m) := by intro w; rw [← hl]; exact HL.out x pv w
              go_wp2_with fail
              go_quiet ((go_at_call 31; exact Calls.quiet_of (L1.out _)))
              go_wp2
              go_roundw
              case rel => exact ⟨k1, by omega, rfl, (HS1.out.drewN _), by rw [← HE.out]; exact (scanDown_go HK.out hkj (by rw [← HX.out]; simp [hl])).symm⟩
              case measure => simp [intOf]; omega
            · have hl' : lt x pv = true := by simpa using hl
              have L1 : Hid (∀ w, Calls Yba.prog 31 #[.int .u64 x, .int .u64 pv] w fun e w' => e = .returned (.bool true) ∧ ∃ m, w' = w.drewN m) := by intro w; rw [← hl']; exact HL.out x pv w
              go_wp2_with fail
              go_quiet ((go_at_call 31; exact Calls.quiet_of (L1.out _)))
              go_wp2
              go_meet
              case rel => exact ⟨congrArg (Value.int .i64) (congrArg Int.ofNat ((scanDown_end (.inr (by rw [← HX.out]; simp [hl']))).symm.trans HE.out)), HS1.out.drewN _⟩
          · have hg1 : decide (I ≤ k) = false := decide_eq_false hkj
            have hg2 : decide ((I : Int) ≤ (k : Int)) = false := decide_eq_false (by omega)
            have HS1 := hide hS1
            clear hS1
            go_wp2_with fail
            go_quiet (fail)
            go_wp2
            go_meet
            case rel => exact ⟨congrArg (Value.int .i64) (congrArg Int.ofNat ((scanDown_end (.inl (by omega))).symm.trans HE.out)), HS1.out.drewN _⟩
      case rest =>
      obtain ⟨rfl, hS⟩ := hcut
      clear HS
      have HS := hide hS
      clear hS
      have hJn : J < n := by omega
      by_cases hIJ : J < I
      · have hg1 : decide ((J : Int) < (I : Int)) = true := decide_eq_true (by omega)
        have h := HE.out
        rw [if_pos hIJ, Prod.mk.injEq] at h
        obtain ⟨rfl, rfl⟩ := h
        go_upto_region 21 with fail
        go_cut [] (fun wc => SR B w wc blk (Sort.swp d J a) sp)
        case first =>
          obtain ⟨u, hu⟩ : ∃ u, u = d[J]! := ⟨_, rfl⟩
          obtain ⟨v, hv⟩ : ∃ v, v = d[a]! := ⟨_, rfl⟩
          have cu := HS.out.cell (by omega) hu
          have cv := HS.out.cell (by omega) hv
          have fu := HS.out.free J
          have fv := HS.out.free a
          have HU := hide hu
          have HV := hide hv
          clear hu hv
          by_cases hij : J = a
          · subst hij
            obtain rfl : u = v := HU.out.trans HV.out.symm
            go_region
            all_goals
              go_wp2_with fail
              go_meet
              case rel => exact (HS.out.drewN _).swp (by omega) (by omega) HU.out HV.out
          · have hji : a ≠ J := fun h => hij h.symm
            go_region
            all_goals
              go_wp2_with fail
              go_meet
              case rel => exact (HS.out.drewN _).swp (by omega) (by omega) HU.out HV.out
        case rest =>
        have hS := hcut
        clear hcut HS
        go_wp2
        go_ret2
        exact ⟨rfl, hS⟩
      · have hg1 : decide ((J : Int) < (I : Int)) = false := decide_eq_false (by omega)
        have h := HE.out
        rw [if_neg hIJ] at h
        have HE2 := hide h
        have hIn : I < n := by omega
        clear h HE
        go_upto_region 18 with fail
        go_cut [] (fun wc => SR B w wc blk (Sort.swp d I J) sp)
        case first =>
          obtain ⟨u, hu⟩ : ∃ u, u = d[I]! := ⟨_, rfl⟩
          obtain ⟨v, hv⟩ : ∃ v, v = d[J]! := ⟨_, rfl⟩
          have cu := HS.out.cell (by omega) hu
          have cv := HS.out.cell (by omega) hv
          have fu := HS.out.free I
          have fv := HS.out.free J
          have HU := hide hu
          have HV := hide hv
          clear hu hv
          by_cases hij : I = J
          · subst hij
            obtain rfl : u = v := HU.out.trans HV.out.symm
            go_region
            all_goals
              go_wp2_with fail
              go_meet
              case rel => exact (HS.out.drewN _).swp (by omega) (by omega) HU.out HV.out
          · have hji : J ≠ I := fun h => hij h.symm
            go_region
            all_goals
              go_wp2_with fail
              go_meet
              case rel => exact (HS.out.drewN _).swp (by omega) (by omega) HU.out HV.out
        case rest =>
        have hS := hcut
        clear hcut HS
        obtain ⟨J1, hJ1'⟩ : ∃ J1, J1 = J - 1 := ⟨_, rfl⟩
        have hJ12 : (J : Int) - 1 = (J1 : Nat) := by omega
        have HJ1 := hide hJ1'
        clear hJ1'
        go_wp2
        go_roundw
        case rel => exact ⟨I + 1, J1, _, by omega, by omega, by have := HJ1.out; omega, by omega, by have := HJ1.out; omega, by go_num, rfl, by rw [Sort.size_swp]; exact hds, hS, by rw [HJ1.out]; exact HE2.out⟩
        case measure => simp [intOf]; have := HJ1.out; omega
end Go.Proofs.Ybulkcsvu
