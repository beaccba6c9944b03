/-
  OUR OWN. 'LawS4731ABefore': the store as it grows, one transaction a round: what each region of the round does to it. No walk.
-/
import Derived.Test.YbulkcsymBefore
import Derived.Deep.AppendLies
import Derived.Laws.CopyOwn
import Derived.Deep.OwnRows
namespace Go.Proofs.Ybulkcsym
open Go.RowKit

/-- How many of the first k lie in session s. -/
def cnt (s k : Nat) : Nat := (k + 1 - s) / 2
/-- The session's list. -/
def sessL (s n : Nat) : List Value := (List.range n).map fun j => .int .i64 ((s + 2 * j : Nat) : Int)
/-- The cells of transaction i. -/
def txnC (bs : List Int) (i : Nat) : List Value := [.int .i64 ((i : Int) % 2), .int .i64 (cnt (i % 2) i : Nat), .slice none 0 0, .slice none 0 0, .slice none 0 0, .int .i64 (bs.getD i 0)]
def txnsL (bs : List Int) (k : Nat) : List Value := (List.range k).flatMap (txnC bs)

theorem sessL_succ (s n : Nat) : sessL s (n + 1) = sessL s n ++ [.int .i64 ((s + 2 * n : Nat) : Int)] := by simp [sessL, List.range_succ]
theorem txnsL_succ (bs : List Int) (k : Nat) : txnsL bs (k + 1) = txnsL bs k ++ txnC bs k := by simp [txnsL, List.range_succ]
theorem txnsL_length (bs : List Int) : ∀ k, (txnsL bs k).length = k * 6
  | 0 => rfl
  | k + 1 => by rw [txnsL_succ, List.length_append, txnsL_length bs k]; simp [txnC]; omega
theorem txnsL_at (bs : List Int) : ∀ (k i : Nat), i < k → (txnsL bs k)[i * 6 + 5]? = some (.int .i64 (bs.getD i 0))
  | 0, i, h => absurd h (by omega)
  | k + 1, i, h => by
    have hl := txnsL_length bs k
    rw [txnsL_succ]
    by_cases e : i = k
    · subst e
      rw [List.getElem?_append_right (by omega), hl]
      simp [txnC]
    · rw [List.getElem?_append_left (by omega)]
      exact txnsL_at bs k i (by omega)
theorem sessL_at (s n i : Nat) (h : i < n) : (sessL s n)[i]? = some (.int .i64 ((s + 2 * i : Nat) : Int)) := by simp [sessL, h]

structure Inv (w wr : World) (bs : List Int) (kt kr : Nat) (T : Value) (Sv : Nat → Value) : Prop where
  sess : Blk wr w.heap.size 22 [Sv 0, Sv 1]
  store : Blk wr (w.heap.size + 1) 33 [.int .i64 0, .bool false, .bool false, T, .slice (some ⟨w.heap.size, 0, none⟩) 2 2, .slice none 0 0, .map none, .map none]
  txns : wr.ownsRow (w.heap.size + 1 + 1) 36 6 T kt (txnsL bs kt)
  rows : ∀ s, s < 2 → wr.ownsRow (w.heap.size + 1 + 1) 3 1 (Sv s) (cnt s kr) (sessL s (cnt s kr))
  apart : ∀ g, (Sv 0).ownBlock = some g → (Sv 1).ownBlock ≠ some g
  size : w.heap.size + 1 + 1 ≤ wr.heap.size
  below : Below w.heap.size w wr

theorem Inv.start (w : World) (bs : List Int) : Inv w ((w.alloc (.cells #[.slice none 0 0, .slice none 0 0] 22)).alloc (.cells #[.int .i64 0, .bool false, .bool false, .slice none 0 0, .slice (some ⟨w.heap.size, 0, none⟩) 2 2, .slice none 0 0, .map none, .map none] 33)) bs 0 0 (.slice none 0 0) (fun _ => .slice none 0 0) := by
  refine ⟨(Blk.made w _ 22).alloc _, ?_, World.ownsRow_nil _ _ _ _, fun s hs => ?_, fun g hg => by simp [Value.ownBlock] at hg, by simp, ((Below.refl _ _).alloc (Nat.le_refl _) _).alloc (by simp) _⟩
  · have := Blk.made (w.alloc (.cells #[.slice none 0 0, .slice none 0 0] 22)) #[.int .i64 0, .bool false, .bool false, .slice none 0 0, .slice (some ⟨w.heap.size, 0, none⟩) 2 2, .slice none 0 0, .map none, .map none] 33
    simpa using this
  · have e : cnt s 0 = 0 := by unfold cnt; omega
    rw [e]
    exact World.ownsRow_nil _ _ _ _

/-- Behind the append to the transactions and the store of its header. -/
theorem Inv.txn {w wr w1 : World} {bs : List Int} {k g cap : Nat} {T : Value} {Sv : Nat → Value} {O : Obj} {news : List Value} (h : Inv w wr bs k k T Sv) (hnews : news = txnC bs k)
    (hown : w1.ownsRow (w.heap.size + 1 + 1) 36 6 (.slice (some ⟨g, 0, none⟩) (k + 1) cap) (k + 1) (txnsL bs k ++ news)) (hg : (wr.alloc O).drew.grownBy w1 T.ownBlock) :
    Inv w (w1.setCell ⟨w.heap.size + 1, 3, none⟩ (.slice (some ⟨g, 0, none⟩) (k + 1) cap)) bs (k + 1) k (.slice (some ⟨g, 0, none⟩) (k + 1) cap) Sv := by
  subst hnews
  have hz := h.size
  have hgl := (hown.lt g rfl).1
  have hs0 : Blk (wr.alloc O).drew w.heap.size 22 [Sv 0, Sv 1] := (h.sess.alloc O).drew
  have hs1 := (h.store.alloc O).drew
  have ht0 := ownsRow_drew (h.txns.alloc O)
  refine ⟨?_, ?_, ?_, fun s hs => ?_, h.apart, ?_, ?_⟩
  · exact (hs0.grown hg (fun e => ownsRow_ne_blk ht0 hs0 (by decide) e.symm)).other (by show w.heap.size ≠ w.heap.size + 1; omega) _
  · exact (hs1.grown hg (fun e => ownsRow_ne_blk ht0 hs1 (by decide) e.symm)).set 3 _
  · rw [txnsL_succ]
    exact ownsRow_setCell_below hown (by show w.heap.size + 1 < w.heap.size + 1 + 1; omega) _
  · have hr := ownsRow_drew ((h.rows s hs).alloc O)
    exact ownsRow_setCell_below (hr.kept hg (ownsRow_ne hr ht0 (by decide))) (by show w.heap.size + 1 < w.heap.size + 1 + 1; omega) _
  · have := hg.size
    simp [World.setCell] at this ⊢
    omega
  · refine Below.setCell ?_ (by show w.heap.size ≤ w.heap.size + 1; omega) _
    refine (h.below.alloc h.below.size O).drew.grown hg (by simp; omega) (fun b hb => ?_)
    have := ht0.lt b hb
    omega

/-- Behind the append to the session's list and the store of its header. -/
theorem Inv.row {w wr w1 : World} {bs : List Int} {k g cap H : Nat} {T : Value} {Sv : Nat → Value} {O : Obj} (h : Inv w wr bs (k + 1) k T Sv)
    (hown : w1.ownsRow (w.heap.size + 1 + 1) 3 1 (.slice (some ⟨g, 0, none⟩) (cnt (k % 2) k + 1) cap) (cnt (k % 2) k + 1) (sessL (k % 2) (cnt (k % 2) k) ++ [.int .i64 (k : Int)])) (hg : (wr.alloc O).drew.grownBy w1 (Sv (k % 2)).ownBlock)
    (hH : wr.heap.size ≤ H) (hat : (Sv (k % 2)).ownBlock = some g ∨ g = H) :
    Inv w (w1.setCell ⟨w.heap.size, k % 2, none⟩ (.slice (some ⟨g, 0, none⟩) (cnt (k % 2) k + 1) cap)) bs (k + 1) (k + 1) T (fun s => if s = k % 2 then .slice (some ⟨g, 0, none⟩) (cnt (k % 2) k + 1) cap else Sv s) := by
  have hz := h.size
  have hgl := (hown.lt g rfl).1
  have hs0 : Blk (wr.alloc O).drew w.heap.size 22 [Sv 0, Sv 1] := (h.sess.alloc O).drew
  have hs1 := (h.store.alloc O).drew
  have hm : k % 2 < 2 := Nat.mod_lt _ (by omega)
  have hr0 := ownsRow_drew ((h.rows (k % 2) hm).alloc O)
  have ht0 := ownsRow_drew (h.txns.alloc O)
  have hss := (hs0.grown hg (fun e => ownsRow_ne_blk hr0 hs0 (by decide) e.symm)).set (k % 2) (.slice (some ⟨g, 0, none⟩) (cnt (k % 2) k + 1) cap)
  have hck : cnt (k % 2) (k + 1) = cnt (k % 2) k + 1 := by unfold cnt; omega
  have hkk : k % 2 + 2 * cnt (k % 2) k = k := by unfold cnt; omega
  refine ⟨?_, ?_, ?_, fun s hs => ?_, ?_, ?_, ?_⟩
  · rcases (show k % 2 = 0 ∨ k % 2 = 1 from by omega) with e | e
    · rw [e] at hss ⊢; simpa using hss
    · rw [e] at hss ⊢; simpa using hss
  · exact (hs1.grown hg (fun e => ownsRow_ne_blk hr0 hs1 (by decide) e.symm)).other (by show w.heap.size + 1 ≠ w.heap.size; omega) _
  · exact ownsRow_setCell_below (ht0.kept hg (ownsRow_ne ht0 hr0 (by decide))) (by show w.heap.size < w.heap.size + 1 + 1; omega) _
  · by_cases e : s = k % 2
    · subst e
      rw [if_pos rfl, hck, sessL_succ, hkk]
      exact ownsRow_setCell_below hown (by show w.heap.size < w.heap.size + 1 + 1; omega) _
    · rw [if_neg e]
      have hcs : cnt s (k + 1) = cnt s k := by unfold cnt; omega
      rw [hcs]
      have hr := ownsRow_drew ((h.rows s hs).alloc O)
      refine ownsRow_setCell_below (hr.kept hg ?_) (by show w.heap.size < w.heap.size + 1 + 1; omega) _
      cases hv : (Sv s).ownBlock with
      | none => exact .inl rfl
      | some b =>
        right
        intro e2
        rcases (show k % 2 = 0 ∨ k % 2 = 1 from by omega) with e0 | e0
        · have e1 : s = 1 := by omega
          rw [e0] at e2; rw [e1] at hv
          exact h.apart b e2.symm hv
        · have e1 : s = 0 := by omega
          rw [e0] at e2; rw [e1] at hv
          exact h.apart b hv e2.symm
  · intro b hb0 hb1
    have hlt0 := (h.rows 0 (by omega)).lt
    have hlt1 := (h.rows 1 (by omega)).lt
    rcases (show k % 2 = 0 ∨ k % 2 = 1 from by omega) with e0 | e0
    · rw [e0] at hb0 hb1 hat
      simp [Value.ownBlock] at hb0
      simp at hb1
      subst hb0
      rcases hat with a | a
      · exact h.apart g a hb1
      · have := hlt1 g hb1; omega
    · rw [e0] at hb0 hb1 hat
      simp at hb0
      simp [Value.ownBlock] at hb1
      subst hb1
      rcases hat with a | a
      · exact h.apart g hb0 a
      · have := hlt0 g hb0; omega
  · have := hg.size
    simp [World.setCell] at this ⊢
    omega
  · refine Below.setCell ?_ (by show w.heap.size ≤ w.heap.size; omega) _
    refine (h.below.alloc h.below.size O).drew.grown hg (by simp; omega) (fun b hb => ?_)
    have := hr0.lt b hb
    omega

theorem below_grown {w w' : World} (h : Below w.heap.size w w') : w.grownBy w' none := ⟨h.os, h.tape, h.output, h.size, fun k hk _ => h.block k hk⟩
theorem own_or (v : Value) : v.ownBlock = none ∨ v.ownBlock ≠ none := by cases v.ownBlock <;> simp

/-- The store stays while the call makes new blocks. -/
theorem Inv.later {w wr w2 : World} {bs : List Int} {kt kr : Nat} {T : Value} {Sv : Nat → Value} (h : Inv w wr bs kt kr T Sv) (hb : Below wr.heap.size wr w2) : Inv w w2 bs kt kr T Sv :=
  ⟨h.sess.below hb h.sess.lt, h.store.below hb h.store.lt, h.txns.kept (below_grown hb) (own_or _), fun s hs => (h.rows s hs).kept (below_grown hb) (own_or _), h.apart, Nat.le_trans h.size hb.size, h.below.trans (hb.mono h.below.size)⟩

/-! ### the copy of a slice of ints -/
theorem copy_pre {w wr : World} {O : Obj} {fr : List Int} {ap : Option Addr} {lp bp op : Nat} (lfr : fr.length = lp) (hap : 0 < lp → ap = some ⟨bp, op, none⟩)
    (hcp : ∀ i, i < lp → w.cell? ⟨bp, op + i, none⟩ = some (.int .i64 (fr.getD i 0))) (hbp : 0 < lp → bp < w.heap.size) (hnx : Below w.heap.size w wr) :
    0 < (fr.map (Value.int .i64)).length → some (⟨wr.heap.size, 0, none⟩ : Addr) = some ⟨wr.heap.size, 0, none⟩ ∧ ∃ ad, ap = some ad ∧ ∀ j v, (fr.map (Value.int .i64))[j]? = some v → (wr.alloc O).cell? (ad.add j) = some v := by
  intro h0
  rw [List.length_map] at h0
  refine ⟨rfl, _, hap (by omega), fun j v hj => ?_⟩
  rw [List.getElem?_map, Option.map_eq_some_iff] at hj
  obtain ⟨s, hs, rfl⟩ := hj
  have hjl : j < fr.length := (List.getElem?_eq_some_iff.1 hs).1
  have h1 := hcp j (by omega)
  rw [List.getD, hs] at h1
  have hb : bp < wr.heap.size := Nat.lt_of_lt_of_le (hbp (by omega)) hnx.size
  have e1 : (wr.alloc O).cell? ⟨bp, op + j, none⟩ = wr.cell? ⟨bp, op + j, none⟩ := World.cell?_of_block (w := wr) (Below.heap_alloc wr O bp hb)
  rw [show (⟨bp, op, none⟩ : Addr).add j = ⟨bp, op + j, none⟩ from by simp [Addr.add], e1]
  exact (hnx.cell (p := ⟨bp, op + j, none⟩) (hbp (by omega))).trans h1

theorem copy_post {wr w2 : World} {fr : List Int} {lp : Nat} (lfr : fr.length = lp)
    (hg2 : w2.heap[wr.heap.size]? = some (.cells (splice (madeCells #[.int .i64 0] lp).toList 0 (fr.map (Value.int .i64))).toArray 3 (0, 0))) (hb2 : Below wr.heap.size (wr.alloc (.cells (madeCells #[.int .i64 0] lp) 3)) w2) :
    Below wr.heap.size wr w2 ∧ wr.heap.size < w2.heap.size ∧ Blk w2 wr.heap.size 3 (fr.map (Value.int .i64)) := by
  have hz := hb2.size
  simp at hz
  refine ⟨((Below.refl _ _).alloc (Nat.le_refl _) _).trans hb2, by omega, ?_⟩
  have e : splice (madeCells #[.int .i64 0] lp).toList 0 (fr.map (Value.int .i64)) = fr.map (Value.int .i64) := by
    unfold splice
    rw [List.drop_of_length_le (by simp [size_madeCells]; omega)]
    simp
  rw [e] at hg2
  exact hg2
theorem ints_cell {w : World} {b : Nat} {fr : List Int} {lp : Nat} (lfr : fr.length = lp) (h : Blk w b 3 (fr.map (Value.int .i64))) : ∀ i, i < lp → w.cell? ⟨b, i, none⟩ = some (.int .i64 (fr.getD i 0)) := by
  intro i hi
  refine h.cell ?_
  rw [List.getElem?_map, List.getD, List.getElem?_eq_getElem (by omega)]
  rfl

/-- What 'beforeOf' reads where the index is not the session's first. -/
theorem Inv.reads {w w2 : World} {bs : List Int} {k s i : Nat} {T : Value} {Sv : Nat → Value} (h : Inv w w2 bs k k T Sv) (hs : s < 2) (hi : i < cnt s k) :
    ∃ Tb ct G cg, w2.cell? ⟨w.heap.size + 1, 3, none⟩ = some (.slice (some ⟨Tb, 0, none⟩) k ct) ∧ w2.cell? ⟨w.heap.size + 1, 4, none⟩ = some (.slice (some ⟨w.heap.size, 0, none⟩) 2 2) ∧
      w2.cell? ⟨w.heap.size, s, none⟩ = some (.slice (some ⟨G, 0, none⟩) (cnt s k) cg) ∧ w2.cell? ⟨G, i, none⟩ = some (.int .i64 ((s + 2 * i : Nat) : Int)) ∧ s + 2 * i < k ∧ w2.cell? ⟨Tb, (s + 2 * i) * 6 + 5, none⟩ = some (.int .i64 (bs.getD (s + 2 * i) 0)) := by
  have hk : s + 2 * i < k := by unfold cnt at hi; omega
  obtain ⟨Tb, ct, hT, _, _⟩ := h.txns.form (by omega)
  obtain ⟨G, cg, hG, _, _⟩ := (h.rows s hs).form (by omega)
  have hsv : w2.cell? ⟨w.heap.size, s, none⟩ = some (Sv s) := by
    refine h.sess.cell ?_
    rcases (show s = 0 ∨ s = 1 from by omega) with e | e <;> rw [e] <;> rfl
  have hst : w2.cell? ⟨w.heap.size + 1, 3, none⟩ = some T := h.store.cell rfl
  have hr := h.rows s hs
  have ht := h.txns
  rw [hG] at hr hsv
  rw [hT] at ht hst
  refine ⟨Tb, ct, G, cg, hst, h.store.cell rfl, hsv, ?_, hk, ?_⟩
  · rw [hr.cellAt i (by omega), sessL_at s _ i hi]
  · rw [ht.cellAt _ (by omega), txnsL_at bs k _ hk]
end Go.Proofs.Ybulkcsym
