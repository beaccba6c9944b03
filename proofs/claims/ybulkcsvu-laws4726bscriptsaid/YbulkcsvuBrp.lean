/-
  OUR OWN. 'breakPatternsOrdered' (27) at uint64.
-/
import Derived.Test.YbulkcsvuBrk
namespace Go.Proofs.Ybulkcsvu
open Go.RowKit Go.Shelf

def bst (a l m i0 : Nat) (d : Array Int) : Nat → UInt64 × Array Int
  | 0 => (UInt64.ofNat l, d)
  | t + 1 => Sort.breakStep a l m (bst a l m i0 d t) (i0 + t)
theorem bst_size (a l m i0 : Nat) (d : Array Int) : ∀ t, (bst a l m i0 d t).2.size = d.size
  | 0 => rfl
  | t + 1 => by
    rw [bst, Sort.breakStep]
    simp only [Sort.size_swp]
    exact bst_size a l m i0 d t
theorem brk_eq {a b l i0 : Nat} {d : Array Int} (hl : l = b - a) (h8 : 8 ≤ l) (hi : i0 = a + l / 4 * 2 - 1) : Sort.breakPatterns d a b = (bst a l (2 ^ Sort.bitsLen l) i0 d 3).2 := by
  unfold Sort.breakPatterns
  simp only [← hl, ← hi, ge_iff_le, h8, if_true, Nat.one_shiftLeft]
  rfl
theorem bst_next {a l m i0 t x y o o2 : Nat} {d : Array Int} (hx : x = (bst a l m i0 d t).1.toNat) (hy : y = Sort.xorNextN x) (ho : o = y &&& (m - 1)) (ho2 : o2 = if o ≥ l then o - l else o) :
    (bst a l m i0 d (t + 1)).1.toNat = y ∧ (bst a l m i0 d (t + 1)).2 = Sort.swp (bst a l m i0 d t).2 (i0 + t) (a + o2) := by
  have e : (Sort.xorNext (bst a l m i0 d t).1).toNat = y := by rw [Sort.xorNext_toNat, ← hx, ← hy]
  refine ⟨e, ?_⟩
  rw [bst, Sort.breakStep]
  simp only [e, ← ho, ← ho2]

set_option maxRecDepth 100000 in
set_option maxHeartbeats 1000000 in
theorem brk_walk (B blk n cap a b : Nat) (d : Array Int) (sp : List Value) (w wr0 : World) (hS : SR B w wr0 blk d sp) (hB : B ≤ wr0.heap.size) (hn : d.size = n) (hab : 12 < b - a) (hbn : b ≤ n) (hn5 : n ≤ 5000) :
    Calls Yba.prog 27 #[.slice (some ⟨blk, 0, none⟩) n cap, .int .i64 a, .int .i64 b] wr0 fun e w' => e = .returned (.tuple #[]) ∧ SR B w w' blk (Sort.breakPatterns d a b) sp := by
  obtain ⟨l, hl⟩ : ∃ l, l = b - a := ⟨_, rfl⟩
  have hl2 : (b : Int) - (a : Int) = (l : Nat) := by omega
  have wl := wrapN l (by omega)
  obtain ⟨q, hq⟩ : ∃ q, q = l / 4 := ⟨_, rfl⟩
  have hq2 : (l : Int).tdiv 4 = (q : Nat) := by rw [hq]; exact (Int.ofNat_tdiv l 4).symm
  have hq3 : (l : Int) / 4 = (q : Nat) := by rw [hq]; rfl
  have wq := wrapN q (by omega)
  obtain ⟨c, hc⟩ : ∃ c, c = a + l / 4 * 2 := ⟨_, rfl⟩
  obtain ⟨i0, hi0⟩ : ∃ i0, i0 = c - 1 := ⟨_, rfl⟩
  obtain ⟨i2, hi2⟩ : ∃ i2, i2 = c + 1 := ⟨_, rfl⟩
  have hc2 : (a : Int) + (q : Int) * 2 = (c : Nat) := by omega
  have hi02 : (c : Int) - 1 = (i0 : Nat) := by omega
  have hi22 : (c : Int) + 1 = (i2 : Nat) := by omega
  have wc' := wrapN c (by omega)
  have wi0 := wrapN i0 (by omega)
  have wi2 := wrapN i2 (by omega)
  have h8 : decide ((8 : Int) ≤ (l : Int)) = true := decide_eq_true (by omega)
  have hi0a : a ≤ i0 := by omega
  have hi0b : i0 + 2 < b := by omega
  have hi0c : i2 = i0 + 2 := by omega
  have hla : a + l = b := by omega
  rw [brk_eq (i0 := i0) hl (by omega) (by rw [hi0, hc])]
  obtain ⟨m, hm⟩ : ∃ m, m = 2 ^ Sort.bitsLen l := ⟨_, rfl⟩
  have hm0 : 0 < m := by rw [hm]; exact Nat.two_pow_pos _
  have hm2 : m ≤ 2 * l := by rw [hm]; exact Sort.two_pow_bitsLen_le (by omega)
  have HP := hide fun w => pow2_walk l (by omega) w
  rw [← hm] at HP ⊢
  have HL : Hid (12 < l) := by show 12 < l; omega
  have hl5 : l ≤ 5000 := by omega
  obtain ⟨m1, hm1⟩ : ∃ m1, m1 = m - 1 := ⟨_, rfl⟩
  have hm12 : (m : Int) - 1 = (m1 : Nat) := by omega
  have hm15 : m1 ≤ 10000 := by omega
  have HM1 := hide hm1
  have HI2 := hide hi0c
  have HX := hide fun x d wq (h : SX B w wq blk d sp wr0.heap.size x) hx => next_walk B blk wr0.heap.size x d sp w wq h hx
  have hS0 : SX B w (wr0.alloc (.cells #[.int .u64 (l : Int)] 86)) blk d sp wr0.heap.size l := ⟨⟨hS.below.alloc hB _, hS.le, hS.row.alloc _⟩, Blk.made wr0 _ 86, hB⟩
  clear hl hq hc hi0 hi2 hm hm1 hi0c
  go_enter Yba.func27, Yba.ntmps27
  go_wp2_with fail
  refine (HP.out _).mono ?_
  rintro e w1 ⟨rfl, rfl⟩
  go_wp2
  clear HP
  go_loopw [9] (fun i wr => ∃ t : Nat, t ≤ 3 ∧ i = .int .i64 ((i0 + t : Nat) : Int) ∧ SX B w wr blk (bst a l m i0 d t).2 sp wr0.heap.size (bst a l m i0 d t).1.toNat) (fun i _ => i0 + 3 - (intOf i).toNat)
  case atStart =>
    refine ⟨0, by omega, rfl, ?_⟩
    have e : (UInt64.ofNat l).toNat = l := UInt64.toNat_ofNat_of_lt' (by show l < 2 ^ 64; omega)
    simp only [bst, e]
    exact hS0
  case round =>
    obtain ⟨t, ht, rfl, hS1⟩ := hrel
    clear hS0
    obtain ⟨i, hi⟩ : ∃ i, i = i0 + t := ⟨_, rfl⟩
    rw [← hi]
    obtain ⟨x, hx⟩ : ∃ x, x = (bst a l m i0 d t).1.toNat := ⟨_, rfl⟩
    rw [← hx] at hS1
    have hx64 : x < 18446744073709551616 := by rw [hx]; exact UInt64.toNat_lt _
    by_cases ht3 : t < 3
    · have hi1 : decide (i ≤ i2) = true := decide_eq_true (by have := HI2.out; omega)
      obtain ⟨y, hy⟩ : ∃ y, y = Sort.xorNextN x := ⟨_, rfl⟩
      have hy64 : y < 18446744073709551616 := by rw [hy]; exact Sort.xorNextN_lt x hx64
      obtain ⟨o, ho⟩ : ∃ o, o = y &&& m1 := ⟨_, rfl⟩
      have ho2 : bits .and .u64 (y : Int) (m1 : Int) = (o : Nat) := by rw [u64_and_nat _ _ hy64 (by omega), ← ho]
      have hom : o ≤ m1 := by rw [ho]; exact Nat.and_le_right
      have wo := wrapN o (by omega)
      have HNX := hide (HX.out x _ wr hS1 hx64)
      rw [← hy] at HNX
      obtain ⟨o2, ho3⟩ : ∃ o2, o2 = if o ≥ l then o - l else o := ⟨_, rfl⟩
      obtain ⟨n1, n2⟩ := bst_next (m := m) hx hy (by rw [← HM1.out]; exact ho) ho3
      have ho2l : o2 < l := by have := HM1.out; rw [ho3]; split <;> omega
      obtain ⟨p, hp⟩ : ∃ p, p = a + o2 := ⟨_, rfl⟩
      have hp2 : (a : Int) + (o2 : Int) = (p : Nat) := by omega
      have wp := wrapN p (by omega)
      have wo2 := wrapN o2 (by omega)
      rw [← hi, ← hp] at n2
      have HN2 := hide n2
      have HN1 := hide n1
      obtain ⟨d', hd'⟩ : ∃ d', d' = (bst a l m i0 d t).2 := ⟨_, rfl⟩
      have hds : d'.size = n := by rw [hd', bst_size]; exact hn
      rw [← hd'] at HN2 hS1 HNX
      have hin : i < n := by omega
      have hpn : p < n := by omega
      have HI := hide hi
      have HO3 := hide ho3
      have hm64 : (m : Int) ≤ 10001 := by omega
      clear hd' hi n1 n2 hx hy ho ho3 hS1 hp
      go_wp2_with fail
      refine HNX.out.mono ?_
      rintro e w1 ⟨rfl, hS2⟩
      obtain ⟨u, hu⟩ : ∃ u, u = d'[i]! := ⟨_, rfl⟩
      obtain ⟨v, hv⟩ : ∃ v, v = d'[p]! := ⟨_, rfl⟩
      have cu := hS2.sr.cell (by omega) hu
      have cv := hS2.sr.cell (by omega) hv
      have fu := hS2.sr.free i
      have fv := hS2.sr.free p
      have HU := hide hu
      have HV := hide hv
      have HS := hide hS2
      clear hu hv hS2
      by_cases hol : l ≤ o
      · have hol' : decide ((l : Int) ≤ (o : Int)) = true := decide_eq_true (by omega)
        have hoo : (o : Int) - (l : Int) = (o2 : Nat) := by have := HO3.out; rw [if_pos hol] at this; omega
        by_cases hip : i = p
        · subst hip
          obtain rfl : u = v := HU.out.trans HV.out.symm
          go_wp2_with fail
          go_region
          all_goals
            go_wp2
            go_roundw
            case rel => exact ⟨t + 1, by omega, by rw [HI.out]; go_num, by rw [HN1.out, HN2.out]; exact (HS.out.drewN _).swp (by omega) (by omega) HU.out HV.out⟩
            case measure => simp [intOf]; have := HI.out; omega
        · have hpi : p ≠ i := fun h => hip h.symm
          go_wp2_with fail
          go_region
          all_goals
            go_wp2
            go_roundw
            case rel => exact ⟨t + 1, by omega, by rw [HI.out]; go_num, by rw [HN1.out, HN2.out]; exact (HS.out.drewN _).swp (by omega) (by omega) HU.out HV.out⟩
            case measure => simp [intOf]; have := HI.out; omega
      · have hol' : decide ((l : Int) ≤ (o : Int)) = false := decide_eq_false (by omega)
        obtain rfl : o = o2 := by have := HO3.out; rw [if_neg hol] at this; omega
        by_cases hip : i = p
        · subst hip
          obtain rfl : u = v := HU.out.trans HV.out.symm
          go_wp2_with fail
          go_region
          all_goals
            go_wp2
            go_roundw
            case rel => exact ⟨t + 1, by omega, by rw [HI.out]; go_num, by rw [HN1.out, HN2.out]; exact (HS.out.drewN _).swp (by omega) (by omega) HU.out HV.out⟩
            case measure => simp [intOf]; have := HI.out; omega
        · have hpi : p ≠ i := fun h => hip h.symm
          go_wp2_with fail
          go_region
          all_goals
            go_wp2
            go_roundw
            case rel => exact ⟨t + 1, by omega, by rw [HI.out]; go_num, by rw [HN1.out, HN2.out]; exact (HS.out.drewN _).swp (by omega) (by omega) HU.out HV.out⟩
            case measure => simp [intOf]; have := HI.out; omega
    · have hi1 : decide (i ≤ i2) = false := decide_eq_false (by have := HI2.out; omega)
      obtain rfl : t = 3 := by omega
      go_wp2
      go_end0
      exact ⟨rfl, hS1.sr⟩
end Go.Proofs.Ybulkcsvu
