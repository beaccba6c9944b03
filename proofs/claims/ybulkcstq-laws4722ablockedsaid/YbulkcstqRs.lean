/-
  OUR OWN. 'LawS4722ABlocked': the roots' ids and the table of what is used.
-/
import Derived.Test.YbulkcstqNod
import Derived.Test.YbulkcstqLs
namespace Go.Proofs.Ybulkcstq
open Go.RowKit

theorem make28 (n : Nat) (hn : n ≤ 1024) (w : World) : (Instr.makeSlice 28 (.int .i64 0) (.int .i64 (n : Int))).run Yba.prog w = .ok (.slice (some ⟨w.heap.size, 0, none⟩) 0 n) (w.alloc (.cells (madeCells #[.string ByteArray.empty] n) 9)) := by
  obtain ⟨i0, hi, hz0, hz1, hz2⟩ := info_parts info9
  have h := run_make (P := Yba.prog) w 28 9 i0 (.string ByteArray.empty) Yba.underlying28 hi hz0 .i64 .i64 0 n (by omega) (by omega) (by rw [hz2]; omega) (by omega)
  rw [hz1] at h
  simpa [Value.cells] using h
theorem size_made (z : Array Value) (n : Nat) : (madeCells z n).size = n * 1 := by
  simp [madeCells]

theorem row0 {w : World} {base n size : Nat} {e : TypeId} {v : Value} {xs : List Value} (h : w.ownsRow base e size v n xs) : w.ownsRow 0 e size v n xs := by
  refine ⟨h.1, ?_⟩
  rcases h.2 with h1 | ⟨g, cap, cur, a, _, r⟩
  · exact .inl h1
  · exact .inr ⟨g, cap, cur, a, Nat.zero_le _, r⟩
/-- The roots' row and the used ones, k roots in. -/
structure RS (w1 w : World) (sv : Value) (k : Nat) (xs : Nat → Nat) : Prop where
  below : Below w1.heap.size w1 w
  row : w.ownsRow w1.heap.size 9 1 sv k ((idsL k xs).map sV)
  us : Arr w (w1.heap.size + 1) 9 (boolF fun r => decide (r ∈ idsL k xs))
  ne : sv.ownBlock ≠ some (w1.heap.size + 1)
theorem RS.start (w1 : World) (n : Nat) (hn : n ≤ 1024) (xs : Nat → Nat) : RS w1 ((w1.alloc (.cells (madeCells #[.string ByteArray.empty] n) 9)).alloc (.cells zb9 41)) (.slice (some ⟨w1.heap.size, 0, none⟩) 0 n) 0 xs := by
  have h := Arr.zb9 (w1.alloc (.cells (madeCells #[.string ByteArray.empty] n) 9)) 41
  rw [World.size_alloc] at h
  refine ⟨((Below.refl _ _).alloc (Nat.le_refl _) _).alloc (by simp) _, (World.ownsRow_made w1 _ n (Nat.le_refl _) (by unfold maxLen; omega) (size_made _ n)).alloc _, h.congr fun i _ => by simp [boolF, idsL], ?_⟩
  simp [Value.ownBlock]
theorem RS.push {w1 w w2 : World} {sv : Value} {k g cap H q : Nat} {xs : Nat → Nat} {O : Obj} (h : RS w1 w sv k xs) (hq : q = xs k % 9) (hown : w2.ownsRow w1.heap.size 9 1 (.slice (some ⟨g, 0, none⟩) (k + 1) cap) (k + 1) ((idsL k xs).map sV ++ [sV q])) (hg : (w.alloc O).grownBy w2 sv.ownBlock) (hat : sv.ownBlock = some g ∨ g = H) (hH : (w.alloc O).heap.size ≤ H) :
    Arr w2 (w1.heap.size + 1) 9 (boolF fun r => decide (r ∈ idsL k xs)) ∧ RS w1 (w2.setCell ⟨w1.heap.size + 1, q, none⟩ (.bool true)) (.slice (some ⟨g, 0, none⟩) (k + 1) cap) (k + 1) xs := by
  have hne : g ≠ w1.heap.size + 1 := by
    rcases hat with hat | hat
    · intro e; exact h.ne (by rw [hat, e])
    · have := h.us.lt; simp only [World.size_alloc] at hH; omega
  have hu : Arr w2 (w1.heap.size + 1) 9 (boolF fun r => decide (r ∈ idsL k xs)) := (h.us.alloc O).grown hg (fun e => h.ne e.symm)
  refine ⟨hu, ?_, ?_, ?_, ?_⟩
  · exact ((h.below.alloc h.below.size O).grown hg (Nat.le_trans h.below.size (by simp)) (fun j hj => (h.row.lt j hj).1)).setCell (Nat.le_succ _) _
  · refine World.ownsRow.kept (row := some (w1.heap.size + 1)) (w := w2) ?_ ⟨rfl, rfl, rfl, by simp [World.setCell], fun j _ hj => Below.heap_setCell _ _ _ _ (fun e => hj (by rw [e]))⟩ (.inr (by simpa [Value.ownBlock] using hne))
    rw [idsL_succ, List.map_append, ← hq]
    exact hown
  · have h2 := hu.set q (.bool true)
    rw [boolF_set] at h2
    refine h2.congr fun i _ => ?_
    unfold boolF
    rw [idsL_succ, ← hq]
    by_cases e : i = q
    · simp [e]
    · simp [e]
  · simpa [Value.ownBlock] using hne
end Go.Proofs.Ybulkcstq
