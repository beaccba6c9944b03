/-
  OUR OWN. The law's arrays: a block whose cells are told by a plain function.
-/
import Derived.Test.YbulkcstqCasc
namespace Go.Proofs.Ybulkcstq
open Go.RowKit

/-- Block b holds n cells, cell i the value f i. -/
def Arr (w : World) (b n : Nat) (f : Nat → Value) : Prop := ∃ e, Blk w b e ((List.range n).map f)
section
variable {w w' : World} {b n : Nat} {f g : Nat → Value}
theorem Arr.lt (h : Arr w b n f) : b < w.heap.size := by obtain ⟨e, h⟩ := h; exact h.lt
theorem Arr.block (h : Arr w b n f) (hb : w'.heap[b]? = w.heap[b]?) : Arr w' b n f := by obtain ⟨e, h⟩ := h; exact ⟨e, h.block hb⟩
theorem Arr.alloc (h : Arr w b n f) (o : Obj) : Arr (w.alloc o) b n f := h.block (Below.heap_alloc _ _ _ h.lt)
theorem Arr.other (h : Arr w b n f) {a : Addr} (ha : b ≠ a.block) (u : Value) : Arr (w.setCell a u) b n f := h.block (Below.heap_setCell _ _ _ _ ha)
theorem Arr.below {B : Nat} (h : Arr w b n f) (hg : Below B w w') (hb : b < B) : Arr w' b n f := h.block (hg.block b hb)
theorem Arr.grown {row : Option Nat} (h : Arr w b n f) (hg : w.grownBy w' row) (hne : some b ≠ row) : Arr w' b n f := h.block (hg.block b h.lt hne)
theorem Arr.cell (h : Arr w b n f) {i : Nat} (hi : i < n) : w.cell? ⟨b, i, none⟩ = some (f i) := by
  obtain ⟨e, h⟩ := h
  refine h.cell ?_
  simp [hi]
theorem Arr.free (h : Arr w b n f) (i : Nat) : w.frozen? ⟨b, i, none⟩ = false := by obtain ⟨e, h⟩ := h; exact h.free i
theorem Arr.congr (h : Arr w b n f) (e : ∀ i, i < n → f i = g i) : Arr w b n g := by
  have : (List.range n).map f = (List.range n).map g := List.map_congr_left fun i hi => e i (List.mem_range.1 hi)
  obtain ⟨t, h⟩ := h
  exact ⟨t, this ▸ h⟩
theorem Arr.set (h : Arr w b n f) (i : Nat) (v : Value) : Arr (w.setCell ⟨b, i, none⟩ v) b n (fun j => if j = i then v else f j) := by
  obtain ⟨e, h⟩ := h
  refine ⟨e, ?_⟩
  have h2 := h.set i v
  have e : ((List.range n).map f).set i v = (List.range n).map (fun j => if j = i then v else f j) := by
    apply List.ext_getElem?
    intro j
    rw [List.getElem?_set]
    by_cases hj : j < n
    · by_cases hij : i = j
      · subst hij; simp [hj]
      · have hji : ¬ j = i := fun h => hij h.symm
        simp [hj, hij, hji]
    · by_cases hij : i = j
      · subst hij; simp [hj]
      · simp [hj, hij]
  rw [e] at h2
  exact h2
theorem Arr.made (w : World) (A : Array Value) (e : TypeId) {n : Nat} {f : Nat → Value} (hA : A.toList = (List.range n).map f) : Arr (w.alloc (.cells A e)) w.heap.size n f := ⟨e, hA ▸ Blk.made w A e⟩
theorem Arr.ne {b' n' : Nat} (h : Arr w b n f) (h' : Arr w b' n' g) (hn : n ≠ n') : b ≠ b' := by
  intro e
  subst e
  obtain ⟨t, h⟩ := h
  obtain ⟨t', h'⟩ := h'
  unfold Blk at h h'
  rw [h] at h'
  have := congrArg (fun o => match o with | some (Obj.cells A _ _) => A.size | _ => 0) h'
  simp at this
  exact hn this
end
def boolF (f : Nat → Bool) (i : Nat) : Value := .bool (f i)
/-- Nine rows of nine. -/
def gridF (f : Nat → Nat → Value) (i : Nat) : Value := f (i / 9) (i % 9)
theorem gridF_at (f : Nat → Nat → Value) {r v : Nat} (hv : v < 9) : gridF f (r * 9 + v) = f r v := by
  unfold gridF
  rw [show (r * 9 + v) / 9 = r by omega, show (r * 9 + v) % 9 = v by omega]
theorem boolF_set (f : Nat → Bool) (k : Nat) (c : Bool) : (fun j => if j = k then Value.bool c else boolF f j) = boolF (fun j => if j = k then c else f j) := by
  funext j
  show (if j = k then Value.bool c else Value.bool (f j)) = Value.bool (if j = k then c else f j)
  split <;> rfl
theorem gridF_set (f : Nat → Nat → Value) {r v : Nat} (hv : v < 9) (c : Value) : (fun j => if j = r * 9 + v then c else gridF f j) = gridF (fun r' v' => if r' = r ∧ v' = v then c else f r' v') := by
  funext j
  show (if j = r * 9 + v then c else f (j / 9) (j % 9)) = if j / 9 = r ∧ j % 9 = v then c else f (j / 9) (j % 9)
  by_cases h : j = r * 9 + v
  · rw [if_pos h, if_pos ⟨by omega, by omega⟩]
  · rw [if_neg h, if_neg (fun h2 => h (by omega))]
theorem Below.drewN' {B : Nat} {a w : World} (h : Below B a w) (n : Nat) : Below B a (w.drewN n) := ⟨h.os, h.tape, h.output, h.size, h.block⟩
/-- The zeros of the law's arrays. -/
def zb9 : Array Value := ((List.range 9).map (boolF fun _ => false)).toArray
def zb81 : Array Value := ((List.range 81).map (gridF fun _ _ => .bool false)).toArray
def zi81 : Array Value := ((List.range 81).map (gridF fun _ _ => .int .i64 0)).toArray
theorem zero41 (w : World) : (zeroValue 41).run Yba.prog w = .ok (.agg zb9) w := by kernel_rfl
theorem zero56 (w : World) : (zeroValue 56).run Yba.prog w = .ok (.agg zb81) w := by kernel_rfl
theorem zero58 (w : World) : (zeroValue 58).run Yba.prog w = .ok (.agg zi81) w := by kernel_rfl
theorem Arr.zb9 (w : World) (e : TypeId) : Arr (w.alloc (.cells zb9 e)) w.heap.size 9 (boolF fun _ => false) := Arr.made w _ e rfl
theorem Arr.zb81 (w : World) (e : TypeId) : Arr (w.alloc (.cells zb81 e)) w.heap.size 81 (gridF fun _ _ => .bool false) := Arr.made w _ e rfl
theorem Arr.zi81 (w : World) (e : TypeId) : Arr (w.alloc (.cells zi81 e)) w.heap.size 81 (gridF fun _ _ => .int .i64 0) := Arr.made w _ e rfl
end Go.Proofs.Ybulkcstq
