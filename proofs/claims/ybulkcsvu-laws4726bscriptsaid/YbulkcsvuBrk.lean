/-
  OUR OWN. 'xorshift.Next' (38), 'nextPowerOfTwo' (37), 'breakPatternsOrdered' (27) at uint64.
-/
import Derived.Test.YbulkcsvuSr
import Derived.Sort.LotD5
import Derived.Laws.BitsAllLaws
import Derived.Shelf.Lay
import Derived.Shelf.Small.Bits
namespace Go.Proofs.Ybulkcsvu
open Go.RowKit Go.Shelf
shelf_lay Lays.n125 Nm 125 at Yba as Yba.lays125
theorem bits_Len (x : Int) (w : World) (h0 : 0 ≤ x) (h1 : x ≤ 18446744073709551615) :
    Calls Yba.prog 23 #[.int .u64 x] w fun e w' => e = .returned (.int .i64 (Lib.bitLen x.toNat)) ∧ w' = w := Any.bits_Len Yba.lays125 x w h0 h1

/-- The row, and the box of the random numbers. -/
structure SX (B : Nat) (w wr : World) (blk : Nat) (d : Array Int) (sp : List Value) (rb x : Nat) : Prop where
  sr : SR B w wr blk d sp
  box : Blk wr rb 86 [.int .u64 (x : Int)]
  le : B ≤ rb
section
variable {B : Nat} {w wr : World} {blk : Nat} {d : Array Int} {sp : List Value} {rb x : Nat}
theorem SX.ne (h : SX B w wr blk d sp rb x) : blk ≠ rb := by
  intro e
  subst e
  have h1 := h.sr.row
  have h2 := h.box
  unfold Blk at h1 h2
  rw [h1] at h2
  simp at h2
theorem SX.drewN (h : SX B w wr blk d sp rb x) (m : Nat) : SX B w (wr.drewN m) blk d sp rb x := ⟨h.sr.drewN m, h.box, h.le⟩
theorem SX.drew (h : SX B w wr blk d sp rb x) : SX B w wr.drew blk d sp rb x := ⟨h.sr.drew, h.box, h.le⟩
theorem SX.set (h : SX B w wr blk d sp rb x) (y : Nat) : SX B w (wr.setCell ⟨rb, 0, none⟩ (.int .u64 (y : Int))) blk d sp rb y :=
  ⟨⟨h.sr.below.setCell h.le _, h.sr.le, h.sr.row.other h.ne _⟩, h.box.set 0 _, h.le⟩
theorem SX.swp (h : SX B w wr blk d sp rb x) {i j : Nat} {u v : Int} (hi : i < d.size) (hj : j < d.size) (hu : u = d[i]!) (hv : v = d[j]!) :
    SX B w ((wr.setCell ⟨blk, i, none⟩ (.int .u64 v)).setCell ⟨blk, j, none⟩ (.int .u64 u)) blk (Sort.swp d i j) sp rb x :=
  ⟨h.sr.swp hi hj hu hv, (h.box.other (Ne.symm h.ne) _).other (Ne.symm h.ne) _, h.le⟩
end

set_option maxRecDepth 100000 in
set_option maxHeartbeats 1000000 in
theorem next_walk (B blk rb x : Nat) (d : Array Int) (sp : List Value) (w wr : World) (hS : SX B w wr blk d sp rb x) (hx : x < 18446744073709551616) :
    Calls Yba.prog 38 #[.pointer (some ⟨rb, 0, none⟩)] wr fun e w' => e = .returned (.int .u64 (Sort.xorNextN x : Nat)) ∧ SX B w w' blk d sp rb (Sort.xorNextN x) := by
  obtain ⟨p, hp⟩ : ∃ p, p = x ^^^ (x * 8192 % 18446744073709551616) := ⟨_, rfl⟩
  obtain ⟨q, hq⟩ : ∃ q, q = p ^^^ (p / 128) := ⟨_, rfl⟩
  obtain ⟨r, hr⟩ : ∃ r, r = q ^^^ (q * 131072 % 18446744073709551616) := ⟨_, rfl⟩
  have hv : Sort.xorNextN x = r := by unfold Sort.xorNextN; simp only [← hp, ← hq, ← hr]
  have lp : p < 18446744073709551616 := by rw [hp]; exact Nat.xor_lt_two_pow (n := 64) (by omega) (by omega)
  have lq : q < 18446744073709551616 := by rw [hq]; exact Nat.xor_lt_two_pow (n := 64) (by omega) (by omega)
  have k1 : bits .xor .u64 (x : Int) (IntKind.u64.wrap ((x : Int) * 8192)) = (p : Nat) := by
    have e : IntKind.u64.wrap ((x : Int) * 8192) = ((x * 8192 % 18446744073709551616 : Nat) : Int) := by simp [IntKind.wrap, IntKind.bits, IntKind.signed]
    rw [e, u64_xor_nat _ _ hx (by omega), ← hp]
  have k2 : bits .xor .u64 (p : Int) ((p : Int) / 128) = (q : Nat) := by
    have e : (p : Int) / 128 = ((p / 128 : Nat) : Int) := by omega
    rw [e, u64_xor_nat _ _ lp (by omega), ← hq]
  have k3 : bits .xor .u64 (q : Int) (IntKind.u64.wrap ((q : Int) * 131072)) = (r : Nat) := by
    have e : IntKind.u64.wrap ((q : Int) * 131072) = ((q * 131072 % 18446744073709551616 : Nat) : Int) := by simp [IntKind.wrap, IntKind.bits, IntKind.signed]
    rw [e, u64_xor_nat _ _ lq (by omega), ← hr]
  rw [hv]
  clear hp hq hr hv
  have c0 : wr.cell? ⟨rb, 0, none⟩ = some (.int .u64 (x : Int)) := hS.box.cell rfl
  have f0 := hS.box.free 0
  have HS := hide hS
  clear hS
  go_enter Yba.func38, Yba.ntmps38
  go_upto_region 1 with fail
  go_cut [] (fun wc => SX B w wc blk d sp rb p)
  case first =>
    go_region
    all_goals
      go_wp2_with fail
      go_meet
      case rel => exact (HS.out.set p).drew
  case rest =>
  have c1 : wc.cell? ⟨rb, 0, none⟩ = some (.int .u64 (p : Int)) := hcut.box.cell rfl
  have f1 := hcut.box.free 0
  have HS1 := hide hcut
  clear hcut c0 f0 HS
  go_upto_region 2 with fail
  go_cut [] (fun wc => SX B w wc blk d sp rb q)
  case first =>
    go_region
    all_goals
      go_wp2_with fail
      go_meet
      case rel => exact (HS1.out.set q).drew
  case rest =>
  have c2 : wc.cell? ⟨rb, 0, none⟩ = some (.int .u64 (q : Int)) := hcut.box.cell rfl
  have f2 := hcut.box.free 0
  have HS2 := hide hcut
  clear hcut
  go_upto_region 3 with fail
  go_cut [] (fun wc => SX B w wc blk d sp rb r)
  case first =>
    go_region
    all_goals
      go_wp2_with fail
      go_meet
      case rel => exact (HS2.out.set r).drew
  case rest =>
  have c3 : wc.cell? ⟨rb, 0, none⟩ = some (.int .u64 (r : Int)) := hcut.box.cell rfl
  go_wp2
  go_ret
  exact ⟨rfl, hcut⟩

theorem bitLenAux_eq : ∀ (f x : Nat), x < 2 ^ f → Lib.bitLenAux f x = Sort.bitsLen x
  | 0, x, h => by
    obtain rfl : x = 0 := by simpa using h
    rfl
  | f + 1, x, h => by
    rw [Lib.bitLenAux]
    by_cases h0 : x = 0
    · subst h0; rfl
    · rw [if_neg h0, bitLenAux_eq f (x / 2) (by rw [Nat.pow_succ] at h; omega), Sort.bitsLen, Sort.bitsLen, if_neg h0]
      by_cases h2 : 2 ≤ x
      · rw [if_neg (by omega), Nat.log2_def x, if_pos h2]
        omega
      · obtain rfl : x = 1 := by omega
        rfl
theorem bitLen_small (x : Nat) (h : x ≤ 5000) : Lib.bitLen x = Sort.bitsLen x := bitLenAux_eq 64 x (by omega)
theorem wrap_pow : ∀ k, k < 14 → IntKind.u64.wrap ((2 : Int) ^ k) = ((2 ^ k : Nat) : Int) := by decide
theorem bitsLen_small (x : Nat) (h : x ≤ 5000) : Sort.bitsLen x ≤ 13 := (Sort.bitsLen_le_iff x 13).2 (by omega)

set_option maxRecDepth 100000 in
set_option maxHeartbeats 1000000 in
theorem pow2_walk (l : Nat) (hl : l ≤ 5000) (w : World) :
    Calls Yba.prog 37 #[.int .i64 l] w fun e w' => e = .returned (.int .u64 (2 ^ Sort.bitsLen l : Nat)) ∧ w' = w := by
  have HB := hide (bits_Len l w (by omega) (by omega))
  rw [show ((l : Nat) : Int).toNat = l from rfl, bitLen_small l hl] at HB
  obtain ⟨k, hk⟩ : ∃ k, k = Sort.bitsLen l := ⟨_, rfl⟩
  have hk13 : k ≤ 13 := by rw [hk]; exact bitsLen_small l hl
  rw [← hk] at HB ⊢
  clear hk
  have hks : (k : Int) ≤ 64 := by omega
  have hks2 : (k : Int) < 64 := by omega
  have hk0 : (0 : Int) ≤ (k : Int) := by omega
  go_enter Yba.func37, Yba.ntmps37
  go_wp2_with fail
  refine HB.out.mono ?_
  rintro e w' ⟨rfl, hww⟩
  obtain rfl : w = w' := hww.symm
  go_wp2
  go_ret
  exact ⟨congrArg (fun v => Ending.returned (.int .u64 v)) (wrap_pow k (by omega)), rfl⟩
end Go.Proofs.Ybulkcsvu
