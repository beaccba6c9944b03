/-
  OUR OWN. How many distinct numbers a list has; what 'slices.Compact' leaves of a sorted list. No Go in it.
-/
import Derived.Lib.SlicesCompact
namespace Go.Proofs.Ybulkcsvu

/-- How many distinct numbers. -/
def dd : List Int → Nat
  | [] => 0
  | x :: l => if x ∈ l then dd l else dd l + 1

theorem dd_le : ∀ l : List Int, dd l ≤ l.length
  | [] => Nat.le_refl _
  | x :: l => by
    have := dd_le l
    rw [dd, List.length_cons]
    split <;> omega
set_option linter.unusedSimpArgs false in
theorem dd_snoc (x : Int) : ∀ l : List Int, dd (l ++ [x]) = if x ∈ l then dd l else dd l + 1
  | [] => by simp [dd]
  | y :: l => by
    have ih := dd_snoc x l
    rw [List.cons_append, dd, dd, ih]
    by_cases h1 : y ∈ l <;> by_cases h2 : x ∈ l <;> by_cases h3 : x = y
    all_goals first
      | (subst h3; simp [h1, h2]; done)
      | (simp [h1, h2, h3, Ne.symm h3]; done)
      | (subst h3; exact absurd h1 h2)
      | (subst h3; exact absurd h2 h1)
theorem dd_perm {l m : List Int} (h : l.Perm m) : dd l = dd m := by
  induction h with
  | nil => rfl
  | cons x h ih => rw [dd, dd, ih]; simp only [h.mem_iff]
  | swap x y l =>
    simp only [dd]
    by_cases h1 : x = y
    · subst h1; rfl
    · by_cases h2 : x ∈ l <;> by_cases h3 : y ∈ l <;> simp [h1, Ne.symm h1, h2, h3]
  | trans _ _ h1 h2 => exact h1.trans h2

theorem compact_dd (d : Array Int) (hs : ∀ i j, i < j → j < d.size → d[i]! ≤ d[j]!) : ∀ m, m ≤ d.size → (Lib.compactUpTo d m).length = dd (d.toList.take m)
  | 0, _ => rfl
  | m + 1, h => by
    have ih := compact_dd d hs m (by omega)
    have hm : m < d.toList.length := by rw [Array.length_toList]; omega
    have hg : d.toList[m]'hm = d[m]! := by rw [getElem!_pos d m (by omega)]; simp
    have hmem : d[m]! ∈ d.toList.take m ↔ Lib.keeps d m = false := by
      constructor
      · intro hx
        obtain ⟨i, hi, e⟩ := List.mem_iff_getElem.1 hx
        simp at hi
        have e2 : d[i]! = d[m]! := by rw [getElem!_pos d i (by omega), ← e]; simp
        have h1 := hs i (m - 1)
        have h2 := hs (m - 1) m (by omega) (by omega)
        have h3 : d[m]! = d[m - 1]! := by
          by_cases him : i = m - 1
          · rw [← him, e2]
          · have := h1 (by omega) (by omega); omega
        exact Lib.keeps_neg (by omega) h3
      · intro hk
        have h0 : ¬ (m = 0 ∨ d[m]! ≠ d[m - 1]!) := of_decide_eq_false hk
        have h0 : m ≠ 0 ∧ d[m]! = d[m - 1]! := ⟨fun h => h0 (.inl h), Classical.byContradiction fun h => h0 (.inr h)⟩
        rw [h0.2]
        refine List.mem_iff_getElem.2 ⟨m - 1, by simp; omega, ?_⟩
        rw [getElem!_pos d (m - 1) (by omega)]
        simp
    have hc : (Lib.compactUpTo d (m + 1)).length = (Lib.compactUpTo d m).length + if Lib.keeps d m then 1 else 0 := by
      unfold Lib.compactUpTo
      rw [List.range_succ, List.filter_append, List.map_append, List.length_append]
      by_cases hk : Lib.keeps d m = true <;> simp [hk]
    rw [hc, ih, List.take_succ_eq_append_getElem hm, dd_snoc, hg]
    by_cases hk : d[m]! ∈ d.toList.take m
    · rw [if_pos hk, hmem.1 hk]
      rfl
    · have hk' : Lib.keeps d m = true := by
        cases e : Lib.keeps d m with
        | true => rfl
        | false => exact absurd (hmem.2 e) hk
      rw [if_neg hk, hk']
      rfl
theorem compact_mem (d : Array Int) (m : Nat) (hm : m ≤ d.size) {x : Int} (hx : x ∈ Lib.compactUpTo d m) : x ∈ d.toList := by
  unfold Lib.compactUpTo at hx
  obtain ⟨i, hi, rfl⟩ := List.mem_map.1 hx
  have := List.mem_range.1 (List.mem_filter.1 hi).1
  rw [getElem!_pos d i (by omega)]
  simp

/-- All that the law's test wants of the sort and of Compact. -/
theorem uniq_all {vals : List Int} {d : Array Int} (h : d.toList = vals.mergeSort (fun x y => decide (x ≤ y))) : (Lib.compactUpTo d d.size).length = dd vals ∧ ∀ x ∈ Lib.compactUpTo d d.size, x ∈ vals := by
  have hp : d.toList.Perm vals := by rw [h]; exact List.mergeSort_perm _ _
  have hsz : d.size = d.toList.length := by simp
  have hsort : d.toList.Pairwise (fun x y => x ≤ y) := by
    rw [h]
    have := List.pairwise_mergeSort (le := fun x y : Int => decide (x ≤ y)) (fun a b c h1 h2 => by simp at *; omega) (fun a b => by simp; omega) vals
    refine List.pairwise_iff_getElem.2 fun i j hi hj hij => ?_
    have h2 := List.pairwise_iff_getElem.1 this i j hi hj hij
    simpa using h2
  have hs : ∀ i j, i < j → j < d.size → d[i]! ≤ d[j]! := by
    intro i j hij hj
    rw [getElem!_pos d i (by omega), getElem!_pos d j hj]
    have := List.pairwise_iff_getElem.1 hsort i j (by omega) (by omega) hij
    simpa using this
  refine ⟨?_, fun x hx => hp.mem_iff.1 (compact_mem d _ (Nat.le_refl _) hx)⟩
  rw [compact_dd d hs d.size (Nat.le_refl _), hsz, List.take_length]
  exact dd_perm hp
end Go.Proofs.Ybulkcsvu
