/-
  OUR OWN. A block of cells that the call itself made, known whole.
-/
import Derived.Below
import Derived.OneCell
import Derived.Laws.Entries
namespace Go.Proofs.Ybulkcstq
open Go.RowKit

/-- Block b holds just the cells L (of element type e); none is frozen. -/
def Blk (w : World) (b : Nat) (e : TypeId) (L : List Value) : Prop := w.heap[b]? = some (.cells L.toArray e (0, 0))

section
variable {w w' : World} {b : Nat} {e : TypeId} {L : List Value}

theorem Blk.made (w : World) (A : Array Value) (e : TypeId) : Blk (w.alloc (.cells A e)) w.heap.size e A.toList := by
  show (w.heap.push _)[w.heap.size]? = _
  simp
theorem Blk.lt (h : Blk w b e L) : b < w.heap.size := (Array.getElem?_eq_some_iff.1 h).1
theorem Blk.block (h : Blk w b e L) (hb : w'.heap[b]? = w.heap[b]?) : Blk w' b e L := hb.trans h
theorem Blk.drew (h : Blk w b e L) : Blk w.drew b e L := h
theorem Blk.alloc (h : Blk w b e L) (o : Obj) : Blk (w.alloc o) b e L := h.block (Below.heap_alloc _ _ _ h.lt)
theorem Blk.other (h : Blk w b e L) {a : Addr} (ha : b ≠ a.block) (u : Value) : Blk (w.setCell a u) b e L := h.block (Below.heap_setCell _ _ _ _ ha)
theorem Blk.below {B : Nat} (h : Blk w b e L) (hg : Below B w w') (hb : b < B) : Blk w' b e L := h.block (hg.block b hb)
theorem Blk.grown {row : Option Nat} (h : Blk w b e L) (hg : w.grownBy w' row) (hne : some b ≠ row) : Blk w' b e L := h.block (hg.block b h.lt hne)
theorem Blk.cell (h : Blk w b e L) {i : Nat} {v : Value} (hv : L[i]? = some v) : w.cell? ⟨b, i, none⟩ = some v := by
  have h' : w.heap[b]? = some (.cells L.toArray e (0, 0)) := h
  simp only [World.cell?, h']
  simpa using hv
theorem Blk.free (h : Blk w b e L) (i : Nat) : w.frozen? ⟨b, i, none⟩ = false := by
  have h' : w.heap[b]? = some (.cells L.toArray e (0, 0)) := h
  simp [World.frozen?, h']
theorem Blk.set (h : Blk w b e L) (i : Nat) (v : Value) : Blk (w.setCell ⟨b, i, none⟩ v) b e (L.set i v) := by
  have hlt := h.lt
  have h' : w.heap[b] = .cells L.toArray e (0, 0) := (Array.getElem?_eq_some_iff.1 h).2
  show (w.heap.modify b _)[b]? = _
  rw [Array.getElem?_eq_getElem (by simpa using hlt), Array.getElem_modify_self, h']
  simp
end

/-- An element's address in a slice of one-cell elements, told so that one walk serves a nil slice too: where there is an element it leads to block b, from place off on. -/
theorem index_slice {P : Program} {t e : TypeId} (ht : P.underlying t = some (.slice e)) (he : (sizeOf e).run P = fun w => .ok 1 w) {a : Option Addr} {len b off : Nat} (ha : 0 < len → a = some ⟨b, off, none⟩) (cap : Nat) {i : Nat} (hi : i < len) (w : World) :
    (Instr.indexAt t (.slice a len cap) (.int .i64 (i : Int))).run P w = .ok (.pointer (some ⟨b, off + i, none⟩)) w := by
  rw [ha (by omega)]
  have h2 : P.elem t = e := by simp [Program.elem, ht]
  rw [run_indexAt_slice (P := P) w t _ len cap .i64 i (by rw [h2]; exact ht), if_pos ⟨by omega, by omega⟩, h2, he]
  simp [Result.andThen, Addr.add]
end Go.Proofs.Ybulkcstq
