/-
  OUR OWN. 'choosePivotOrdered' (28) at uint64.
-/
import Derived.Test.YbulkcsvuPiv
namespace Go.Proofs.Ybulkcsvu
open Go.RowKit

def hintN : Sort.Hint → Int
  | .unknown => 0
  | .increasing => 1
  | .decreasing => 2
def hintS (s : Nat) : Sort.Hint := if s = 0 then .increasing else if s = 12 then .decreasing else .unknown
theorem SR.swaps {B : Nat} {w wr : World} {blk : Nat} {d : Array Int} {sp : List Value} (h : SR B w wr blk d sp) (hB : B ≤ wr.heap.size) : SW B w (wr.alloc (.cells #[.int .i64 0] 3)) blk d sp wr.heap.size 0 :=
  ⟨⟨h.below.alloc hB _, h.le, h.row.alloc _⟩, Blk.made wr _ 3, hB⟩
theorem cho_small {d : Array Int} {a b l i j k : Nat} (hl : l = b - a) (h8 : 8 ≤ l) (h50 : ¬ 50 ≤ l) (hi : i = a + l / 4 * 1) (hj : j = a + l / 4 * 2) (hk : k = a + l / 4 * 3) :
    Sort.choosePivot lt d a b = ((Sort.median lt d i j k 0).1, hintS (Sort.median lt d i j k 0).2) := by
  unfold Sort.choosePivot
  simp only [← hl, ← hi, ← hj, ← hk, ge_iff_le, h8, h50, if_true, if_false]
  rfl
theorem cho_large {d : Array Int} {a b l i j k : Nat} (hl : l = b - a) (h50 : 50 ≤ l) (hi : i = a + l / 4 * 1) (hj : j = a + l / 4 * 2) (hk : k = a + l / 4 * 3) {ri rj rk : Nat × Nat}
    (e1 : ri = Sort.medianAdjacent lt d i 0) (e2 : rj = Sort.medianAdjacent lt d j ri.2) (e3 : rk = Sort.medianAdjacent lt d k rj.2) :
    Sort.choosePivot lt d a b = ((Sort.median lt d ri.1 rj.1 rk.1 rk.2).1, hintS (Sort.median lt d ri.1 rj.1 rk.1 rk.2).2) := by
  subst e1 e2 e3
  unfold Sort.choosePivot
  simp only [← hl, ← hi, ← hj, ← hk, ge_iff_le, h50, show 8 ≤ l by omega, if_true]
  rfl
theorem medA_fst (d : Array Int) (a s n : Nat) (h : a + 1 < n) : (Sort.medianAdjacent lt d a s).1 < n := by
  rcases Sort.medianAdjacent_mem lt d a s with h | h | h <;> omega
theorem medA_cnt (d : Array Int) (a s : Nat) : (Sort.medianAdjacent lt d a s).2 ≤ s + 3 := median_cnt d _ _ _ s

set_option maxRecDepth 100000 in
set_option maxHeartbeats 1000000 in
theorem cho_walk (B blk n cap a b : Nat) (d : Array Int) (sp : List Value) (w wr : World) (hS : SR B w wr blk d sp) (hB : B ≤ wr.heap.size) (hn : d.size = n) (hab : 12 < b - a) (hbn : b ≤ n) (hn5 : n ≤ 5000) :
    Calls Yba.prog 28 #[.slice (some ⟨blk, 0, none⟩) n cap, .int .i64 a, .int .i64 b] wr fun e w' => e = .returned (.tuple #[.int .i64 (Sort.choosePivot lt d a b).1, .int .i64 (hintN (Sort.choosePivot lt d a b).2)]) ∧ SR B w w' blk d sp := by
  have HM := hide fun a b c s wq (h : SW B w wq blk d sp wr.heap.size s) (ha : a < n) (hb : b < n) (hc : c < n) (hs : s ≤ 50) => median_walk B blk n cap a b c wr.heap.size s d sp w wq h hn ha hb hc hn5 hs
  have HA := hide fun a s wq (h : SW B w wq blk d sp wr.heap.size s) (ha0 : 0 < a) (ha : a + 1 < n) (hs : s ≤ 50) => medianA_walk B blk n cap a wr.heap.size s d sp w wq h hn ha0 ha hn5 hs
  obtain ⟨l, hl⟩ : ∃ l, l = b - a := ⟨_, rfl⟩
  have hl2 : (b : Int) - (a : Int) = (l : Nat) := by omega
  have wl := wrapN l (by omega)
  obtain ⟨q, hq⟩ : ∃ q, q = l / 4 := ⟨_, rfl⟩
  have hq2 : (l : Int).tdiv 4 = (q : Nat) := by rw [hq]; exact (Int.ofNat_tdiv l 4).symm
  have hq3 : (l : Int) / 4 = (q : Nat) := by rw [hq]; rfl
  have wq := wrapN q (by omega)
  obtain ⟨i, hi⟩ : ∃ i, i = a + l / 4 * 1 := ⟨_, rfl⟩
  obtain ⟨j, hj⟩ : ∃ j, j = a + l / 4 * 2 := ⟨_, rfl⟩
  obtain ⟨k, hk⟩ : ∃ k, k = a + l / 4 * 3 := ⟨_, rfl⟩
  have hi2 : (a : Int) + (q : Int) = (i : Nat) := by omega
  have hj2 : (a : Int) + (q : Int) * 2 = (j : Nat) := by omega
  have hk2 : (a : Int) + (q : Int) * 3 = (k : Nat) := by omega
  have wi := wrapN i (by omega)
  have wj := wrapN j (by omega)
  have wk := wrapN k (by omega)
  have h8 : decide ((8 : Int) ≤ (l : Int)) = true := decide_eq_true (by omega)
  have hin : 0 < i ∧ i + 1 < n := by omega
  have hjn : 0 < j ∧ j + 1 < n := by omega
  have hkn : 0 < k ∧ k + 1 < n := by omega
  have hq5 : q ≤ 5000 := by omega
  have hS0 := hS.swaps hB
  by_cases h50 : 50 ≤ l
  · have h50' : decide ((50 : Int) ≤ (l : Int)) = true := decide_eq_true (by omega)
    obtain ⟨i1, s1, e1⟩ : ∃ i1 s1, (i1, s1) = Sort.medianAdjacent lt d i 0 := ⟨_, _, rfl⟩
    obtain ⟨j1, s2, e2⟩ : ∃ j1 s2, (j1, s2) = Sort.medianAdjacent lt d j s1 := ⟨_, _, rfl⟩
    obtain ⟨k1, s3, e3⟩ : ∃ k1 s3, (k1, s3) = Sort.medianAdjacent lt d k s2 := ⟨_, _, rfl⟩
    rw [cho_large hl h50 hi hj hk e1 e2 e3]
    have m1 := medA_cnt d i 0
    have m2 := medA_cnt d j s1
    have m3 := medA_cnt d k s2
    have f1 := medA_fst d i 0 n hin.2
    have f2 := medA_fst d j s1 n hjn.2
    have f3 := medA_fst d k s2 n hkn.2
    have C1 := hide (HA.out i 0 _ hS0 hin.1 hin.2 (by omega))
    rw [← e1] at m1 f1 C1
    rw [← e2] at m2 f2
    rw [← e3] at m3 f3
    simp only at m1 m2 m3 f1 f2 f3 C1 ⊢
    have C2 := hide fun wq h => HA.out j s1 wq h hjn.1 hjn.2 (by omega)
    have C3 := hide fun wq h => HA.out k s2 wq h hkn.1 hkn.2 (by omega)
    rw [← e2] at C2
    rw [← e3] at C3
    simp only at C2 C3
    have m4 := median_cnt d i1 j1 k1 s3
    have C4 := hide fun wq h => HM.out i1 j1 k1 s3 wq h f1 f2 f3 (by omega)
    obtain ⟨p, s, hr⟩ : ∃ p s, (p, s) = Sort.median lt d i1 j1 k1 s3 := ⟨_, _, rfl⟩
    rw [← hr] at C4 m4 ⊢
    simp only at C4 m4 ⊢
    clear hr hl hq hi hj hk HM HA hS0 e1 e2 e3
    by_cases h0 : s = 0
    · subst h0
      rw [show hintN (hintS 0) = 1 from rfl]
      go_enter Yba.func28, Yba.ntmps28
      go_wp2_with fail
      refine C1.out.mono ?_
      rintro e w1 ⟨rfl, hS1⟩
      go_wp2_with fail
      refine (C2.out w1 hS1).mono ?_
      rintro e w2 ⟨rfl, hS2⟩
      go_wp2_with fail
      refine (C3.out w2 hS2).mono ?_
      rintro e w3 ⟨rfl, hS3⟩
      go_wp2_with fail
      refine (C4.out w3 hS3).mono ?_
      rintro e w4 ⟨rfl, hS4⟩
      have cs : w4.cell? ⟨wr.heap.size, 0, none⟩ = some (.int .i64 ((0 : Nat) : Int)) := hS4.box.cell rfl
      go_wp2
      go_ret2
      exact ⟨rfl, hS4.sr⟩
    · have t0 : ((s : Int) == 0) = false := by simp; omega
      by_cases h12 : s = 12
      · subst h12
        rw [show hintN (hintS 12) = 2 from rfl]
        clear t0
        go_enter Yba.func28, Yba.ntmps28
        go_wp2_with fail
        refine C1.out.mono ?_
        rintro e w1 ⟨rfl, hS1⟩
        go_wp2_with fail
        refine (C2.out w1 hS1).mono ?_
        rintro e w2 ⟨rfl, hS2⟩
        go_wp2_with fail
        refine (C3.out w2 hS2).mono ?_
        rintro e w3 ⟨rfl, hS3⟩
        go_wp2_with fail
        refine (C4.out w3 hS3).mono ?_
        rintro e w4 ⟨rfl, hS4⟩
        have cs : w4.cell? ⟨wr.heap.size, 0, none⟩ = some (.int .i64 ((12 : Nat) : Int)) := hS4.box.cell rfl
        go_wp2
        go_ret2
        exact ⟨rfl, hS4.sr⟩
      · rw [show hintN (hintS s) = 0 by simp [hintS, h0, h12, hintN]]
        have t1 : ((s : Int) == 12) = false := by simp; omega
        go_enter Yba.func28, Yba.ntmps28
        go_wp2_with fail
        refine C1.out.mono ?_
        rintro e w1 ⟨rfl, hS1⟩
        go_wp2_with fail
        refine (C2.out w1 hS1).mono ?_
        rintro e w2 ⟨rfl, hS2⟩
        go_wp2_with fail
        refine (C3.out w2 hS2).mono ?_
        rintro e w3 ⟨rfl, hS3⟩
        go_wp2_with fail
        refine (C4.out w3 hS3).mono ?_
        rintro e w4 ⟨rfl, hS4⟩
        have cs : w4.cell? ⟨wr.heap.size, 0, none⟩ = some (.int .i64 (s : Int)) := hS4.box.cell rfl
        go_wp2
        go_ret2
        exact ⟨rfl, hS4.sr⟩
  · have h50' : decide ((50 : Int) ≤ (l : Int)) = false := decide_eq_false (by omega)
    rw [cho_small hl (by omega) h50 hi hj hk]
    have m1 := median_cnt d i j k 0
    have C := hide (HM.out i j k 0 _ hS0 (by omega) (by omega) (by omega) (by omega))
    obtain ⟨p, s, hr⟩ : ∃ p s, (p, s) = Sort.median lt d i j k 0 := ⟨_, _, rfl⟩
    rw [← hr] at C m1 ⊢
    simp only at C m1 ⊢
    clear hr hl hq hi hj hk HM HA hS0
    by_cases h0 : s = 0
    · subst h0
      rw [show hintN (hintS 0) = 1 from rfl]
      go_enter Yba.func28, Yba.ntmps28
      go_wp2_with fail
      refine C.out.mono ?_
      rintro e w1 ⟨rfl, hS1⟩
      have cs : w1.cell? ⟨wr.heap.size, 0, none⟩ = some (.int .i64 ((0 : Nat) : Int)) := hS1.box.cell rfl
      go_wp2
      go_ret2
      exact ⟨rfl, hS1.sr⟩
    · by_cases h12 : s = 12
      · omega
      · rw [show hintN (hintS s) = 0 by simp [hintS, h0, h12, hintN]]
        have t0 : ((s : Int) == 0) = false := by simp; omega
        have t1 : ((s : Int) == 12) = false := by simp; omega
        go_enter Yba.func28, Yba.ntmps28
        go_wp2_with fail
        refine C.out.mono ?_
        rintro e w1 ⟨rfl, hS1⟩
        have cs : w1.cell? ⟨wr.heap.size, 0, none⟩ = some (.int .i64 (s : Int)) := hS1.box.cell rfl
        go_wp2
        go_ret2
        exact ⟨rfl, hS1.sr⟩
end Go.Proofs.Ybulkcsvu
