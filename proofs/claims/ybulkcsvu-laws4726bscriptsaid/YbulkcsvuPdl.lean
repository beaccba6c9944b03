/-
  OUR OWN. One round of pdqsort, plain; sizes; ranges.
-/
import Derived.Test.YbulkcsvuPin
import Derived.Test.YbulkcsvuPar
import Derived.Test.YbulkcsvuBrp
import Derived.Test.YbulkcsvuCho
import Derived.Test.YbulkcsvuHeap
import Derived.Test.YbulkcsvuIns
namespace Go.Proofs.Ybulkcsvu
open Go.RowKit

/-- Behind the test of the pivot against what lies to the left. -/
def pdqEq (d3 : Array Int) (a b lim pv : Nat) (wb wp : Bool) : Array Int := Sort.pdq lt (Sort.partitionEqual lt d3 a b pv).2 (Sort.partitionEqual lt d3 a b pv).1 b lim wb wp
def pdqPart (d3 : Array Int) (a b lim pv : Nat) : Array Int :=
  match Sort.partition lt d3 a b pv with
  | (mid, ap, d4) => if mid - a < b - mid then Sort.pdq lt (Sort.pdq lt d4 a mid lim true true) (mid + 1) b lim (decide (mid - a ≥ (b - a) / 8)) ap
      else Sort.pdq lt (Sort.pdq lt d4 (mid + 1) b lim true true) a mid lim (decide (b - mid ≥ (b - a) / 8)) ap

theorem scanUp_max {p : Int → Bool} {d : Array Int} {j : Nat} : ∀ (m i : Nat), j + 1 - i ≤ m → Sort.scanUp p d j i ≤ max i (j + 1)
  | 0, i, h => by rw [scanUp_end (.inl (by omega))]; exact Nat.le_max_left _ _
  | m + 1, i, h => by
    by_cases hg : i ≤ j ∧ p d[i]! = true
    · rw [scanUp_go hg.1 hg.2]
      have := scanUp_max (p := p) (d := d) (j := j) m (i + 1) (by omega)
      omega
    · rw [scanUp_end]
      · exact Nat.le_max_left _ _
      · by_cases h1 : i ≤ j
        · exact .inr (by simpa [h1] using hg)
        · exact .inl h1
theorem peq_range {a b : Nat} : ∀ (m i j : Nat) (d : Array Int), j + 2 - i ≤ m → a < i → i ≤ j + 2 → i ≤ b → j + 1 ≤ b →
    a < (Sort.partEqLoop lt a i j d).1 ∧ (Sort.partEqLoop lt a i j d).1 ≤ b ∧ (Sort.partEqLoop lt a i j d).2.size = d.size := by
  intro m
  induction m with
  | zero =>
    intro i j d hm hai hij hib hjb
    rw [Sort.partEqLoop_eq, scanUp_end (j := j) (.inl (by omega)), scanDown_end (.inl (by omega)), if_pos (by omega)]
    exact ⟨hai, hib, rfl⟩
  | succ m ih =>
    intro i j d hm hai hij hib hjb
    rw [Sort.partEqLoop_eq]
    have h1 := Sort.scanUp_ge (fun x => !lt d[a]! x) d j i
    have h2 := scanUp_max (p := fun x => !lt d[a]! x) (d := d) (j := j) _ i (Nat.le_refl _)
    generalize Sort.scanUp (fun x => !lt d[a]! x) d j i = I at h1 h2 ⊢
    have h3 := Sort.scanDown_le (fun x => lt d[a]! x) d I j
    generalize Sort.scanDown (fun x => lt d[a]! x) d I j = J at h3 ⊢
    by_cases h : I > J
    · rw [if_pos h]
      exact ⟨by omega, by omega, rfl⟩
    · rw [if_neg h]
      have := ih (I + 1) (J - 1) (Sort.swp d I J) (by omega) (by omega) (by omega) (by omega) (by omega)
      rw [Sort.size_swp] at this
      exact this
theorem partEq_range {d : Array Int} {a b pv : Nat} (hab : a < b) : a < (Sort.partitionEqual lt d a b pv).1 ∧ (Sort.partitionEqual lt d a b pv).1 ≤ b ∧ (Sort.partitionEqual lt d a b pv).2.size = d.size := by
  have := peq_range (a := a) (b := b) _ (a + 1) (b - 1) (Sort.swp d a pv) (Nat.le_refl _) (by omega) (by omega) (by omega) (by omega)
  rw [Sort.size_swp] at this
  exact this
theorem part_range {d : Array Int} {a b pv : Nat} (h1 : a ≤ pv) (h2 : pv < b) (h3 : b ≤ d.size) : a ≤ (Sort.partition lt d a b pv).1 ∧ (Sort.partition lt d a b pv).1 < b ∧ (Sort.partition lt d a b pv).2.2.size = d.size := by
  have := Sort.partition_holds lt Sort.swo_ltInt d a b pv h1 h2 h3
  exact ⟨this.1, this.2.1, this.2.2.1.1⟩
theorem pins_size (a b : Nat) : ∀ (s i : Nat) (d : Array Int), (Sort.partialIns lt a b s i d).1.size = d.size
  | 0, i, d => rfl
  | s + 1, i, d => by
    rw [pi_step rfl rfl rfl rfl rfl]
    split
    · rfl
    · split
      · rfl
      · rw [pins_size]
        split
        · rw [su_size _ _ _ (Nat.le_refl _)]
          split
          · rw [sd_size, Sort.size_swp]
          · rw [Sort.size_swp]
        · split
          · rw [sd_size, Sort.size_swp]
          · rw [Sort.size_swp]

theorem pdq_small {d : Array Int} {a b lim : Nat} {wb wp : Bool} (h : b - a ≤ 12) : Sort.pdq lt d a b lim wb wp = Sort.insertionSort lt d a b := by
  rw [Sort.pdq, if_pos h]
theorem pdq_heap {d : Array Int} {a b lim : Nat} {wb wp : Bool} (h : ¬ b - a ≤ 12) (h0 : lim = 0) : Sort.pdq lt d a b lim wb wp = Sort.heapSort lt d a b := by
  rw [Sort.pdq, if_neg h, if_pos h0]
theorem pdq_step {d d1 d2 d3 : Array Int} {a b lim lim1 p pv : Nat} {wb wp ok : Bool} {h h2 : Sort.Hint} (h12 : ¬ b - a ≤ 12) (h0 : ¬ lim = 0)
    (e1 : d1 = if !wb then Sort.breakPatterns d a b else d) (e2 : lim1 = if !wb then lim - 1 else lim) (e3 : (p, h) = Sort.choosePivot lt d1 a b)
    (e4 : d2 = if h = .decreasing then Sort.reverseRange d1 a b else d1) (e5 : pv = if h = .decreasing then (b - 1) - (p - a) else p) (e6 : h2 = if h = .decreasing then Sort.Hint.increasing else h)
    (e7 : (d3, ok) = if wb && wp && decide (h2 = .increasing) then Sort.partialInsertionSort lt d2 a b else (d2, false)) (hsz : b ≤ d3.size) (hp1 : a ≤ pv) (hp2 : pv < b) :
    Sort.pdq lt d a b lim wb wp = if ok then d3 else if decide (a > 0) && !lt d3[a - 1]! d3[pv]! then pdqEq d3 a b lim1 pv wb wp else pdqPart d3 a b lim1 pv := by
  rw [Sort.pdq, if_neg h12, if_neg h0]
  simp only [← e1, ← e2, ← e3, ← e4, ← e5, ← e6, ← e7]
  split
  · rfl
  · split
    · unfold pdqEq
      have hr := partEq_range (d := d3) (a := a) (b := b) (pv := pv) (by omega)
      generalize Sort.partitionEqual lt d3 a b pv = q at hr ⊢
      obtain ⟨mid, d4⟩ := q
      simp only at hr ⊢
      rw [dif_pos ⟨hr.1, hr.2.1⟩]
    · unfold pdqPart
      have hr := part_range (d := d3) hp1 hp2 hsz
      generalize Sort.partition lt d3 a b pv = q at hr ⊢
      obtain ⟨mid, ap, d4⟩ := q
      simp only at hr ⊢
      rw [dif_pos ⟨hr.1, hr.2.1⟩]
end Go.Proofs.Ybulkcsvu
