/-
  OUR OWN. The law's nodes as they lie in memory.
-/
import Derived.Test.YbulkcstqArr
namespace Go.Proofs.Ybulkcstq
open Go.RowKit

/-- n nodes from block nb, place no on: complete, in the plan, dependencies (a slice of bytes, nil or not). -/
structure Nodes (w : World) (n nb no : Nat) (inP co : Nat → Bool) (da : Nat → Option Addr) (dn dc bk off : Nat → Nat) (ds : Nat → Nat → Nat) : Prop where
  c0 : ∀ i, i < n → w.cell? ⟨nb, no + i * 3, none⟩ = some (.bool (co i))
  c1 : ∀ i, i < n → w.cell? ⟨nb, no + i * 3 + 1, none⟩ = some (.bool (inP i))
  c2 : ∀ i, i < n → w.cell? ⟨nb, no + i * 3 + 2, none⟩ = some (.slice (da i) (dn i) (dc i))
  ad : ∀ i, i < n → 0 < dn i → da i = some ⟨bk i, off i, none⟩
  cd : ∀ i, i < n → ∀ j, j < dn i → w.cell? ⟨bk i, off i + j, none⟩ = some (.int .u8 (ds i j : Nat))
  le : ∀ i, i < n → ∀ j, j < dn i → ds i j ≤ 255
/-- The dependencies of node i, as numbers of ids. -/
def depL (dn : Nat → Nat) (ds : Nat → Nat → Nat) (i : Nat) : List Nat := (List.range (dn i)).map fun j => ds i j % 9
theorem depL_len (dn : Nat → Nat) (ds : Nat → Nat → Nat) (i : Nat) : (depL dn ds i).length = dn i := by simp [depL]
theorem Nodes.below {w w1 : World} {n nb no : Nat} {inP co : Nat → Bool} {da : Nat → Option Addr} {dn dc bk off : Nat → Nat} {ds : Nat → Nat → Nat} (h : Nodes w n nb no inP co da dn dc bk off ds) (hb : Below w.heap.size w w1) : Nodes w1 n nb no inP co da dn dc bk off ds :=
  ⟨fun i hi => (hb.cell (p := ⟨nb, no + i * 3, none⟩) (lt_of_cell (h.c0 i hi))).trans (h.c0 i hi), fun i hi => (hb.cell (p := ⟨nb, no + i * 3 + 1, none⟩) (lt_of_cell (h.c1 i hi))).trans (h.c1 i hi), fun i hi => (hb.cell (p := ⟨nb, no + i * 3 + 2, none⟩) (lt_of_cell (h.c2 i hi))).trans (h.c2 i hi),
    h.ad, fun i hi j hj => (hb.cell (p := ⟨bk i, off i + j, none⟩) (lt_of_cell (h.cd i hi j hj))).trans (h.cd i hi j hj), h.le⟩
/-- A row of bytes that came in (nil or not). -/
structure Bytes (w : World) (a : Option Addr) (n b off : Nat) (xs : Nat → Nat) : Prop where
  ad : 0 < n → a = some ⟨b, off, none⟩
  cd : ∀ j, j < n → w.cell? ⟨b, off + j, none⟩ = some (.int .u8 (xs j : Nat))
  le : ∀ j, j < n → xs j ≤ 255
theorem Bytes.below {w w1 : World} {a : Option Addr} {n b off : Nat} {xs : Nat → Nat} (h : Bytes w a n b off xs) (hb : Below w.heap.size w w1) : Bytes w1 a n b off xs :=
  ⟨h.ad, fun j hj => (hb.cell (p := ⟨b, off + j, none⟩) (lt_of_cell (h.cd j hj))).trans (h.cd j hj), h.le⟩
/-- The bytes' ids' numbers. -/
def idsL (n : Nat) (xs : Nat → Nat) : List Nat := (List.range n).map fun j => xs j % 9
theorem idsL_succ (n : Nat) (xs : Nat → Nat) : idsL (n + 1) xs = idsL n xs ++ [xs n % 9] := by simp [idsL, List.range_succ]
theorem idsL_len (n : Nat) (xs : Nat → Nat) : (idsL n xs).length = n := by simp [idsL]
theorem idsL_lt (n : Nat) (xs : Nat → Nat) : ∀ r ∈ idsL n xs, r < 9 := by
  intro r hr
  obtain ⟨j, _, rfl⟩ := List.mem_map.1 hr
  exact Nat.mod_lt _ (by omega)
theorem Nodes.bytes {w : World} {n nb no : Nat} {inP co : Nat → Bool} {da : Nat → Option Addr} {dn dc bk off : Nat → Nat} {ds : Nat → Nat → Nat} (h : Nodes w n nb no inP co da dn dc bk off ds) {i : Nat} (hi : i < n) : Bytes w (da i) (dn i) (bk i) (off i) (ds i) := ⟨h.ad i hi, h.cd i hi, h.le i hi⟩
theorem depL_ids (dn : Nat → Nat) (ds : Nat → Nat → Nat) (i : Nat) : depL dn ds i = idsL (dn i) (ds i) := rfl

/-- The law's arrows: from u to v where v waits on u, u in the plan. -/
def arr (n : Nat) (inP : Nat → Bool) (dl : Nat → List Nat) (u v : Nat) : Bool := decide (v < n) && pIn n inP u && decide (u ∈ dl v)
theorem arr_iff {n : Nat} {inP : Nat → Bool} {dl : Nat → List Nat} (u v : Nat) (hv : v < n) : arr n inP dl u v = true ↔ pIn n inP u = true ∧ u ∈ dl v := by
  unfold arr
  simp [hv]
/-- .. when the nodes below m are done, and j dependencies of node m. -/
def arrP (n : Nat) (inP : Nat → Bool) (dl : Nat → List Nat) (m j u v : Nat) : Bool := pIn n inP u && ((decide (v < m) && decide (u ∈ dl v)) || (decide (v = m) && decide (u ∈ (dl m).take j)))
theorem arrP_zero (n : Nat) (inP : Nat → Bool) (dl : Nat → List Nat) (u v : Nat) : arrP n inP dl 0 0 u v = false := by simp [arrP]
theorem arrP_row (n : Nat) (inP : Nat → Bool) (dl : Nat → List Nat) (m u v : Nat) : arrP n inP dl m (dl m).length u v = arrP n inP dl (m + 1) 0 u v := by
  unfold arrP
  rw [List.take_length, List.take_zero]
  by_cases h : v = m
  · subst h
    simp
  · by_cases h2 : v < m
    · have h3 : v < m + 1 := by omega
      simp [h, h2, h3]
    · have h3 : ¬ v < m + 1 := by omega
      simp [h, h2, h3]
theorem arrP_last (n : Nat) (inP : Nat → Bool) (dl : Nat → List Nat) (u v : Nat) : arrP n inP dl n 0 u v = arr n inP dl u v := by
  unfold arrP arr
  rw [List.take_zero]
  cases decide (v < n) <;> cases pIn n inP u <;> simp
theorem arrP_step {n : Nat} {inP : Nat → Bool} {dl : Nat → List Nat} {m j d : Nat} (hd : (dl m)[j]? = some d) (u v : Nat) : arrP n inP dl m (j + 1) u v = if u = d ∧ v = m ∧ pIn n inP d = true then true else arrP n inP dl m j u v := by
  have hj : j < (dl m).length := by
    by_cases h : j < (dl m).length
    · exact h
    · rw [List.getElem?_eq_none (by omega)] at hd; cases hd
  have e : (dl m).take (j + 1) = (dl m).take j ++ [d] := by
    rw [List.take_succ_eq_append_getElem hj]
    rw [List.getElem?_eq_getElem hj] at hd
    rw [Option.some.inj hd]
  unfold arrP
  rw [e]
  by_cases hv : v = m
  · subst hv
    by_cases hu : u = d
    · subst hu
      by_cases hp : pIn n inP u = true
      · simp [hp]
      · simp [hp]
    · simp [hu]
  · simp [hv]
end Go.Proofs.Ybulkcstq
