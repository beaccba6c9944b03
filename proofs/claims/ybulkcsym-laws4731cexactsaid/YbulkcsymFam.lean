/-
  OUR OWN. A list of lists of ints that the call makes: the headers in one block, each list in a block of its own that grows by append. And the first state of 'LawS4731CExact'.
-/
import Derived.Test.YbulkcsymUno
import Derived.Test.YbulkcsymNewc
namespace Go.Proofs.Ybulkcsym
open Go.RowKit

structure Fam (w : World) (base hb K : Nat) (Sv : Nat → Value) (xs : Nat → List Value) : Prop where
  hdr : Blk w hb 22 ((List.range K).map Sv)
  hlt : hb < base
  rows : ∀ s, s < K → w.ownsRow base 3 1 (Sv s) (xs s).length (xs s)
  apart : ∀ s s', s < K → s' < K → s ≠ s' → ∀ g, (Sv s).ownBlock = some g → (Sv s').ownBlock ≠ some g

section
variable {w w' wr w1 : World} {base hb K : Nat} {Sv : Nat → Value} {xs : Nat → List Value}
theorem Fam.cell (h : Fam w base hb K Sv xs) {s : Nat} (hs : s < K) : w.cell? ⟨hb, s, none⟩ = some (Sv s) := h.hdr.cell (by simp [hs])
theorem Fam.alloc (h : Fam w base hb K Sv xs) (O : Obj) : Fam (w.alloc O) base hb K Sv xs := ⟨h.hdr.alloc O, h.hlt, fun s hs => (h.rows s hs).alloc O, h.apart⟩
theorem Fam.drew (h : Fam w base hb K Sv xs) : Fam w.drew base hb K Sv xs := ⟨h.hdr, h.hlt, fun s hs => ownsRow_drew (h.rows s hs), h.apart⟩
theorem Fam.below (h : Fam w base hb K Sv xs) (hb' : Below w.heap.size w w') : Fam w' base hb K Sv xs := ⟨h.hdr.below hb' h.hdr.lt, h.hlt, fun s hs => (h.rows s hs).kept (below_grown hb') (own_or _), h.apart⟩
theorem Fam.set (h : Fam w base hb K Sv xs) {a : Addr} (ha : a.block < base) (hne : hb ≠ a.block) (v : Value) : Fam (w.setCell a v) base hb K Sv xs := ⟨h.hdr.other hne v, h.hlt, fun s hs => ownsRow_setCell_below (h.rows s hs) ha v, h.apart⟩

/-- Behind an append to list s and the store of its header. -/
theorem Fam.push (h : Fam wr base hb K Sv xs) {s g cap H : Nat} {u : Value} (hs : s < K)
    (hown : w1.ownsRow base 3 1 (.slice (some ⟨g, 0, none⟩) ((xs s).length + 1) cap) ((xs s).length + 1) (xs s ++ [u])) (hg : wr.grownBy w1 (Sv s).ownBlock) (hat : (Sv s).ownBlock = some g ∨ g = H) (hH : wr.heap.size ≤ H) :
    Fam (w1.setCell ⟨hb, s, none⟩ (.slice (some ⟨g, 0, none⟩) ((xs s).length + 1) cap)) base hb K (fun j => if j = s then .slice (some ⟨g, 0, none⟩) ((xs s).length + 1) cap else Sv j) (fun j => if j = s then xs s ++ [u] else xs j) := by
  have hr := h.rows s hs
  refine ⟨?_, h.hlt, fun j hj => ?_, fun a b ha hb' hne g' hga hgb => ?_⟩
  · have h1 := (h.hdr.grown hg (fun e => ownsRow_ne_blk hr h.hdr (by decide) e.symm)).set s (.slice (some ⟨g, 0, none⟩) ((xs s).length + 1) cap)
    refine Eq.trans h1 ?_
    congr 3
    apply List.ext_getElem?
    intro i
    simp only [List.getElem?_set, List.getElem?_map, List.length_map, List.length_range]
    by_cases e : s = i
    · subst e; simp [hs]
    · rw [if_neg e]
      by_cases hi : i < K
      · simp [hi, Ne.symm e]
      · simp [hi]
  · by_cases e : j = s
    · subst e
      simp only [if_pos]
      refine ownsRow_setCell_below ?_ h.hlt _
      simpa using hown
    · simp only [if_neg e]
      refine ownsRow_setCell_below ((h.rows j hj).kept hg ?_) h.hlt _
      cases hv : (Sv j).ownBlock with
      | none => exact .inl rfl
      | some b => exact .inr fun e2 => h.apart j s hj hs e b hv e2.symm
  · by_cases ea : a = s
    · subst ea
      have eb : ¬ b = a := fun e => hne e.symm
      simp only [if_pos, if_neg eb] at hga hgb
      simp [Value.ownBlock] at hga
      subst hga
      rcases hat with hat | hat
      · exact h.apart a b ha hb' hne _ hat hgb
      · have := ((h.rows b hb').lt _ hgb).2; omega
    · simp only [if_neg ea] at hga
      by_cases eb : b = s
      · subst eb
        simp only [if_pos] at hgb
        simp [Value.ownBlock] at hgb
        subst hgb
        rcases hat with hat | hat
        · exact h.apart a b ha hb' hne _ hga hat
        · have := ((h.rows a ha).lt _ hga).2; omega
      · simp only [if_neg eb] at hgb
        exact h.apart a b ha hb' hne g' hga hgb

/-- What lies below the lists stays. -/
theorem Fam.keeps (h : Fam wr base hb K Sv xs) {s b : Nat} {e : TypeId} {L : List Value} (hs : s < K) (hB : Blk wr b e L) (hb1 : b < base) (hne : b ≠ hb) (hg : wr.grownBy w1 (Sv s).ownBlock) (v : Value) : Blk (w1.setCell ⟨hb, s, none⟩ v) b e L := by
  refine (hB.grown hg ?_).other hne v
  intro e2
  have := ((h.rows s hs).lt b e2.symm).1
  omega
theorem Fam.keepsBelow (h : Fam wr base hb K Sv xs) {s z : Nat} {w0 : World} (hs : s < K) (hz : z ≤ hb) (hB : Below z w0 wr) (hzs : z ≤ wr.heap.size) (hg : wr.grownBy w1 (Sv s).ownBlock) (v : Value) : Below z w0 (w1.setCell ⟨hb, s, none⟩ v) := by
  refine (hB.grown hg hzs (fun b hb' => ?_)).setCell hz v
  have := ((h.rows s hs).lt b hb').1
  have := h.hlt
  omega
end

/-! ### the first state: transactions and sessions -/
def comL (tb sb n S : Nat) : List Value := [.slice (some ⟨tb, 0, none⟩) n n, .slice (some ⟨sb, 0, none⟩) S S, .slice none 0 0, .int .i64 0, .slice none 0 0, .slice none 0 0, .slice none 0 0, .slice none 0 0, .slice none 0 0, .pointer none]

structure P1 (w wr : World) (tb sb n S : Nat) (Sv : Nat → Value) (xs : Nat → List Value) (Ls Li Lt : List Value) : Prop where
  pos : tb + sb = 2 * w.heap.size + 1 ∧ w.heap.size ≤ tb ∧ tb ≤ w.heap.size + 1
  fam : Fam wr (w.heap.size + 5) sb S Sv xs
  com : Blk wr (w.heap.size + 2) 57 (comL tb sb n S)
  hso : Blk wr (w.heap.size + 3) 3 Ls
  hio : Blk wr (w.heap.size + 3 + 1) 3 Li
  htx : Blk wr tb 63 Lt
  below : Below w.heap.size w wr
  size : w.heap.size + 5 ≤ wr.heap.size

section
variable {w wr w1 : World} {tb sb n S : Nat} {Sv : Nat → Value} {xs : Nat → List Value} {Ls Li Lt : List Value}
theorem P1.setSo (h : P1 w wr tb sb n S Sv xs Ls Li Lt) (i : Nat) (v : Value) : P1 w (wr.setCell ⟨w.heap.size + 3, i, none⟩ v) tb sb n S Sv xs (Ls.set i v) Li Lt := by
  have hp := h.pos
  exact ⟨h.pos, h.fam.set (by show w.heap.size + 3 < _; omega) (by show sb ≠ w.heap.size + 3; omega) v, h.com.other (by show w.heap.size + 2 ≠ w.heap.size + 3; omega) v, h.hso.set i v, h.hio.other (by show w.heap.size + 3 + 1 ≠ w.heap.size + 3; omega) v, h.htx.other (by show tb ≠ w.heap.size + 3; omega) v, h.below.setCell (by show w.heap.size ≤ w.heap.size + 3; omega) v, by simpa [World.setCell] using h.size⟩
theorem P1.setIo (h : P1 w wr tb sb n S Sv xs Ls Li Lt) (i : Nat) (v : Value) : P1 w (wr.setCell ⟨w.heap.size + 3 + 1, i, none⟩ v) tb sb n S Sv xs Ls (Li.set i v) Lt := by
  have hp := h.pos
  exact ⟨h.pos, h.fam.set (by show w.heap.size + 3 + 1 < _; omega) (by show sb ≠ w.heap.size + 3 + 1; omega) v, h.com.other (by show w.heap.size + 2 ≠ w.heap.size + 3 + 1; omega) v, h.hso.other (by show w.heap.size + 3 ≠ w.heap.size + 3 + 1; omega) v, h.hio.set i v, h.htx.other (by show tb ≠ w.heap.size + 3 + 1; omega) v, h.below.setCell (by show w.heap.size ≤ w.heap.size + 3 + 1; omega) v, by simpa [World.setCell] using h.size⟩
theorem P1.setTx (h : P1 w wr tb sb n S Sv xs Ls Li Lt) (i : Nat) (v : Value) : P1 w (wr.setCell ⟨tb, i, none⟩ v) tb sb n S Sv xs Ls Li (Lt.set i v) := by
  have hp := h.pos
  exact ⟨h.pos, h.fam.set (by show tb < _; omega) (by show sb ≠ tb; omega) v, h.com.other (by show w.heap.size + 2 ≠ tb; omega) v, h.hso.other (by show w.heap.size + 3 ≠ tb; omega) v, h.hio.other (by show w.heap.size + 3 + 1 ≠ tb; omega) v, h.htx.set i v, h.below.setCell (by show w.heap.size ≤ tb; omega) v, by simpa [World.setCell] using h.size⟩
theorem P1.drew (h : P1 w wr tb sb n S Sv xs Ls Li Lt) : P1 w wr.drew tb sb n S Sv xs Ls Li Lt := ⟨h.pos, h.fam.drew, h.com, h.hso, h.hio, h.htx, h.below.drew, h.size⟩
theorem P1.alloc (h : P1 w wr tb sb n S Sv xs Ls Li Lt) (O : Obj) : P1 w (wr.alloc O) tb sb n S Sv xs Ls Li Lt := ⟨h.pos, h.fam.alloc O, h.com.alloc O, h.hso.alloc O, h.hio.alloc O, h.htx.alloc O, h.below.alloc h.below.size O, by simp; have := h.size; omega⟩
theorem P1.push (h : P1 w wr tb sb n S Sv xs Ls Li Lt) {s g cap H : Nat} {u : Value} (hs : s < S)
    (hown : w1.ownsRow (w.heap.size + 5) 3 1 (.slice (some ⟨g, 0, none⟩) ((xs s).length + 1) cap) ((xs s).length + 1) (xs s ++ [u])) (hg : wr.grownBy w1 (Sv s).ownBlock) (hat : (Sv s).ownBlock = some g ∨ g = H) (hH : wr.heap.size ≤ H) :
    P1 w (w1.setCell ⟨sb, s, none⟩ (.slice (some ⟨g, 0, none⟩) ((xs s).length + 1) cap)) tb sb n S (fun j => if j = s then .slice (some ⟨g, 0, none⟩) ((xs s).length + 1) cap else Sv j) (fun j => if j = s then xs s ++ [u] else xs j) Ls Li Lt := by
  have hp := h.pos
  refine ⟨h.pos, h.fam.push hs hown hg hat hH, h.fam.keeps hs h.com (by omega) (by omega) hg _, h.fam.keeps hs h.hso (by omega) (by omega) hg _, h.fam.keeps hs h.hio (by omega) (by omega) hg _, h.fam.keeps hs h.htx (by omega) (by omega) hg _, h.fam.keepsBelow hs (by omega) h.below h.below.size hg _, ?_⟩
  have := hg.size
  have := h.size
  simp [World.setCell]
  omega
end

/-! ### what the cells say -/
/-- How many of the first k lie in session s. -/
def cs (sv : Nat → Nat) (s k : Nat) : Nat := ((List.range k).filter fun i => sv i == s).length
theorem cs_succ (sv : Nat → Nat) (s k : Nat) : cs sv s (k + 1) = cs sv s k + if sv k = s then 1 else 0 := by
  unfold cs
  rw [List.range_succ, List.filter_append, List.length_append]
  by_cases h : sv k = s <;> simp [h]
theorem cs_le (sv : Nat → Nat) (s : Nat) : ∀ k, cs sv s k ≤ k
  | 0 => by simp [cs]
  | k + 1 => by rw [cs_succ]; have := cs_le sv s k; split <;> omega

structure Good (sv : Nat → Nat) (n S k : Nat) (xs : Nat → List Value) (Ls Li Lt : List Value) : Prop where
  ls : Ls.length = n
  li : Li.length = n
  lt : Lt.length = n * 8
  so : ∀ i, i < k → Ls[i]? = some (.int .i64 (sv i : Nat))
  io : ∀ i, i < k → Li[i]? = some (.int .i64 (cs sv (sv i) i : Nat))
  t1 : ∀ i, i < k → Lt[i * 8 + 1]? = some (.int .i64 (sv i : Nat))
  t2 : ∀ i, i < k → Lt[i * 8 + 2]? = some (.int .i64 (cs sv (sv i) i : Nat))
  len : ∀ s, s < S → (xs s).length = cs sv s k

theorem Good.step {sv : Nat → Nat} {n S k : Nat} {xs : Nat → List Value} {Ls Li Lt : List Value} (h : Good sv n S k xs Ls Li Lt) (hk : k < n) (hs : sv k < S) (u : Value) :
    Good sv n S (k + 1) (fun j => if j = sv k then xs (sv k) ++ [u] else xs j) (Ls.set k (.int .i64 (sv k : Nat))) (Li.set k (.int .i64 (cs sv (sv k) k : Nat))) ((Lt.set (k * 8 + 1) (.int .i64 (sv k : Nat))).set (k * 8 + 2) (.int .i64 (cs sv (sv k) k : Nat))) := by
  refine ⟨by simpa using h.ls, by simpa using h.li, by simpa using h.lt, fun i hi => ?_, fun i hi => ?_, fun i hi => ?_, fun i hi => ?_, fun s hs' => ?_⟩
  · by_cases e : k = i
    · subst e; rw [List.getElem?_set_self (by rw [h.ls]; exact hk)]
    · rw [List.getElem?_set_ne e]; exact h.so i (by omega)
  · by_cases e : k = i
    · subst e; rw [List.getElem?_set_self (by rw [h.li]; exact hk)]
    · rw [List.getElem?_set_ne e]; exact h.io i (by omega)
  · rw [List.getElem?_set_ne (by omega)]
    by_cases e : k = i
    · subst e; rw [List.getElem?_set_self (by rw [h.lt]; omega)]
    · rw [List.getElem?_set_ne (by omega)]; exact h.t1 i (by omega)
  · by_cases e : k = i
    · subst e; rw [List.getElem?_set_self (by rw [List.length_set, h.lt]; omega)]
    · rw [List.getElem?_set_ne (by omega), List.getElem?_set_ne (by omega)]; exact h.t2 i (by omega)
  · rw [cs_succ]
    by_cases e : s = sv k
    · subst e; simp [h.len _ hs]
    · simp only [if_neg e, if_neg (Ne.symm e)]; rw [h.len s hs']; rfl
end Go.Proofs.Ybulkcsym
