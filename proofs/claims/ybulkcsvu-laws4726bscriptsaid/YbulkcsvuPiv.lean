/-
  OUR OWN. 'order2Ordered' (42), 'medianOrdered' (40), 'medianAdjacentOrdered' (39), 'choosePivotOrdered' (28) at uint64.
-/
import Derived.Test.YbulkcsvuSr
namespace Go.Proofs.Ybulkcsvu
open Go.RowKit

/-- The row, and a box that counts. -/
structure SW (B : Nat) (w wr : World) (blk : Nat) (d : Array Int) (sp : List Value) (sb s : Nat) : Prop where
  sr : SR B w wr blk d sp
  box : Blk wr sb 3 [.int .i64 (s : Int)]
  le : B ≤ sb
section
variable {B : Nat} {w wr : World} {blk : Nat} {d : Array Int} {sp : List Value} {sb s : Nat}
theorem SW.ne (h : SW B w wr blk d sp sb s) : blk ≠ sb := by
  intro e
  subst e
  have h1 := h.sr.row
  have h2 := h.box
  unfold Blk at h1 h2
  rw [h1] at h2
  simp at h2
theorem SW.drewN (h : SW B w wr blk d sp sb s) (m : Nat) : SW B w (wr.drewN m) blk d sp sb s := ⟨h.sr.drewN m, h.box, h.le⟩
theorem SW.bump (h : SW B w wr blk d sp sb s) {v : Int} (hv : v = ((s + 1 : Nat) : Int)) : SW B w (wr.setCell ⟨sb, 0, none⟩ (.int .i64 v)) blk d sp sb (s + 1) := by
  subst hv
  exact ⟨⟨h.sr.below.setCell h.le _, h.sr.le, h.sr.row.other h.ne _⟩, h.box.set 0 _, h.le⟩
end

set_option maxRecDepth 100000 in
set_option maxHeartbeats 1000000 in
theorem order2_walk (B blk n cap a b sb s : Nat) (d : Array Int) (sp : List Value) (w wr : World) (hS : SW B w wr blk d sp sb s) (hn : d.size = n) (ha : a < n) (hb : b < n) (_hn5 : n ≤ 5000) (hs : s ≤ 100) :
    Calls Yba.prog 42 #[.slice (some ⟨blk, 0, none⟩) n cap, .int .i64 a, .int .i64 b, .pointer (some ⟨sb, 0, none⟩)] wr fun e w' => e = .returned (.tuple #[.int .i64 (Sort.order2 lt d a b s).1, .int .i64 (Sort.order2 lt d a b s).2.1]) ∧ SW B w w' blk d sp sb (Sort.order2 lt d a b s).2.2 := by
  have HL := hide fun x y w => less x y w
  obtain ⟨x, hx⟩ : ∃ x, x = d[a]! := ⟨_, rfl⟩
  obtain ⟨y, hy⟩ : ∃ y, y = d[b]! := ⟨_, rfl⟩
  have cx := hS.sr.cell (by omega) hx
  have cy := hS.sr.cell (by omega) hy
  have cs : wr.cell? ⟨sb, 0, none⟩ = some (.int .i64 s) := hS.box.cell rfl
  have fs := hS.box.free 0
  rw [Sort.order2, ← hx, ← hy]
  have HS := hide hS
  clear hS hx hy
  by_cases hl : lt y x = true
  · have HL1 : Hid (∀ w, Calls Yba.prog 31 #[.int .u64 y, .int .u64 x] w fun e w' => e = .returned (.bool true) ∧ ∃ m, w' = w.drewN m) := by intro w; rw [← hl]; exact HL.out y x w
    rw [if_pos hl]
    go_enter Yba.func42, Yba.ntmps42
    go_wp2_with fail
    go_quiet ((go_at_call 31; exact Calls.quiet_of (HL1.out _)))
    go_wp2
    go_ret2
    exact ⟨rfl, (HS.out.drewN _).bump (by push_cast; rfl)⟩
  · have hl' : lt y x = false := by simpa using hl
    have HL1 : Hid (∀ w, Calls Yba.prog 31 #[.int .u64 y, .int .u64 x] w fun e w' => e = .returned (.bool false) ∧ ∃ m, w' = w.drewN m) := by intro w; rw [← hl']; exact HL.out y x w
    rw [if_neg hl]
    go_enter Yba.func42, Yba.ntmps42
    go_wp2_with fail
    go_quiet ((go_at_call 31; exact Calls.quiet_of (HL1.out _)))
    go_wp2
    go_ret2
    exact ⟨rfl, HS.out.drewN _⟩

theorem order2_fst (d : Array Int) (a b s n : Nat) (ha : a < n) (hb : b < n) : (Sort.order2 lt d a b s).1 < n ∧ (Sort.order2 lt d a b s).2.1 < n := by
  unfold Sort.order2
  split <;> exact ⟨by assumption, by assumption⟩
theorem order2_cnt (d : Array Int) (a b s : Nat) : (Sort.order2 lt d a b s).2.2 ≤ s + 1 := by
  unfold Sort.order2
  split <;> simp

set_option maxRecDepth 100000 in
set_option maxHeartbeats 1000000 in
theorem median_walk (B blk n cap a b c sb s : Nat) (d : Array Int) (sp : List Value) (w wr : World) (hS : SW B w wr blk d sp sb s) (hn : d.size = n) (ha : a < n) (hb : b < n) (hc : c < n) (hn5 : n ≤ 5000) (hs : s ≤ 50) :
    Calls Yba.prog 40 #[.slice (some ⟨blk, 0, none⟩) n cap, .int .i64 a, .int .i64 b, .int .i64 c, .pointer (some ⟨sb, 0, none⟩)] wr fun e w' => e = .returned (.int .i64 (Sort.median lt d a b c s).1) ∧ SW B w w' blk d sp sb (Sort.median lt d a b c s).2 := by
  have HO := hide fun a b s wq (h : SW B w wq blk d sp sb s) (ha : a < n) (hb : b < n) (hs : s ≤ 100) => order2_walk B blk n cap a b sb s d sp w wq h hn ha hb hn5 hs
  rw [Sort.median]
  obtain ⟨a1, b1, s1, h1⟩ : ∃ a1 b1 s1, (a1, b1, s1) = Sort.order2 lt d a b s := ⟨_, _, _, rfl⟩
  have m1 := order2_fst d a b s n ha hb
  have k1 := order2_cnt d a b s
  have c1 := HO.out a b s wr hS ha hb (by omega)
  rw [← h1] at m1 k1 c1 ⊢
  simp only at m1 k1 c1 ⊢
  obtain ⟨b2, c2, s2, h2⟩ : ∃ b2 c2 s2, (b2, c2, s2) = Sort.order2 lt d b1 c s1 := ⟨_, _, _, rfl⟩
  have m2 := order2_fst d b1 c s1 n m1.2 hc
  have k2 := order2_cnt d b1 c s1
  have C2 := hide fun wq h => HO.out b1 c s1 wq h m1.2 hc (by omega)
  rw [← h2] at m2 k2 C2 ⊢
  simp only at m2 k2 C2 ⊢
  obtain ⟨a3, b3, s3, h3⟩ : ∃ a3 b3 s3, (a3, b3, s3) = Sort.order2 lt d a1 b2 s2 := ⟨_, _, _, rfl⟩
  have C3 := hide fun wq h => HO.out a1 b2 s2 wq h m1.1 m2.1 (by omega)
  rw [← h3] at C3 ⊢
  simp only at C3 ⊢
  have C1 := hide c1
  clear c1 h1 h2 h3 HO
  go_enter Yba.func40, Yba.ntmps40
  go_wp2_with fail
  refine C1.out.mono ?_
  rintro e w1 ⟨rfl, hS1⟩
  go_wp2_with fail
  refine (C2.out w1 hS1).mono ?_
  rintro e w2 ⟨rfl, hS2⟩
  go_wp2_with fail
  refine (C3.out w2 hS2).mono ?_
  rintro e w3 ⟨rfl, hS3⟩
  go_wp2
  go_ret
  exact ⟨rfl, hS3⟩

theorem median_fst (d : Array Int) (a b c s n : Nat) (ha : a < n) (hb : b < n) (hc : c < n) : (Sort.median lt d a b c s).1 < n := by
  rcases Sort.median_mem lt d a b c s with h | h | h <;> omega
theorem median_cnt (d : Array Int) (a b c s : Nat) : (Sort.median lt d a b c s).2 ≤ s + 3 := by
  unfold Sort.median
  have h1 := order2_cnt d a b s
  have h2 := order2_cnt d (Sort.order2 lt d a b s).2.1 c (Sort.order2 lt d a b s).2.2
  have h3 := order2_cnt d (Sort.order2 lt d a b s).1 (Sort.order2 lt d (Sort.order2 lt d a b s).2.1 c (Sort.order2 lt d a b s).2.2).1 (Sort.order2 lt d (Sort.order2 lt d a b s).2.1 c (Sort.order2 lt d a b s).2.2).2.2
  simp only
  omega

set_option maxRecDepth 100000 in
set_option maxHeartbeats 1000000 in
theorem medianA_walk (B blk n cap a sb s : Nat) (d : Array Int) (sp : List Value) (w wr : World) (hS : SW B w wr blk d sp sb s) (hn : d.size = n) (ha0 : 0 < a) (ha : a + 1 < n) (hn5 : n ≤ 5000) (hs : s ≤ 50) :
    Calls Yba.prog 39 #[.slice (some ⟨blk, 0, none⟩) n cap, .int .i64 a, .pointer (some ⟨sb, 0, none⟩)] wr fun e w' => e = .returned (.int .i64 (Sort.medianAdjacent lt d a s).1) ∧ SW B w w' blk d sp sb (Sort.medianAdjacent lt d a s).2 := by
  obtain ⟨a0, h0⟩ : ∃ a0, a0 = a - 1 := ⟨_, rfl⟩
  obtain ⟨a1, h1⟩ : ∃ a1, a1 = a + 1 := ⟨_, rfl⟩
  have e0 : (a : Int) - 1 = (a0 : Nat) := by omega
  have e1 : (a : Int) + 1 = (a1 : Nat) := by omega
  have w1 := wrapN a1 (by omega)
  have C := hide (median_walk B blk n cap a0 a a1 sb s d sp w wr hS hn (by omega) (by omega) (by omega) hn5 hs)
  rw [Sort.medianAdjacent, ← h0, ← h1]
  obtain ⟨r, hr⟩ : ∃ r, r = Sort.median lt d a0 a a1 s := ⟨_, rfl⟩
  rw [← hr] at C ⊢
  clear h0 h1 hr
  go_enter Yba.func39, Yba.ntmps39
  go_wp2_with fail
  refine C.out.mono ?_
  rintro e w1 ⟨rfl, hS1⟩
  go_wp2
  go_ret
  exact ⟨rfl, hS1⟩
end Go.Proofs.Ybulkcsvu
