/-
  OUR OWN. Workers as they lie in memory; the set of what they hold.
-/
import Derived.Test.YbulkcstqTail8
namespace Go.Proofs.Ybulkcstq
open Go.RowKit Go.Maps Go.WideMaps

theorem flat_at {α : Type} (f : α → List Value) (K : Nat) (hK : ∀ x, (f x).length = K) : ∀ (l : List α) (m : Nat) (x : α), l[m]? = some x → ∀ j, j < K → (l.flatMap f)[m * K + j]? = (f x)[j]?
  | [], _, _, h, _, _ => by simp at h
  | a :: l, 0, x, h, j, hj => by
    simp at h
    subst h
    rw [List.flatMap_cons, Nat.zero_mul, Nat.zero_add, List.getElem?_append_left (by rw [hK]; exact hj)]
  | a :: l, m + 1, x, h, j, hj => by
    simp at h
    have e : (m + 1) * K + j = K + (m * K + j) := by rw [Nat.add_mul]; omega
    rw [List.flatMap_cons, e, List.getElem?_append_right (by rw [hK]; omega), hK, Nat.add_sub_cancel_left]
    exact flat_at f K hK l m x h j hj

/-- A worker's ten cells. -/
def wC (q : Nat × Bool) : List Value := [.string ⟨#[119]⟩, sV q.1, .bool q.2, .int .u64 0, .int .i64 0, .pointer none, .int .u64 0, .int .i64 0, .pointer none, .string ByteArray.empty]
def tC (k : Nat) : List Value := [.string ByteArray.empty, sV k, .bool false, .int .u64 0, .int .i64 0, .pointer none, .int .u64 0, .int .i64 0, .pointer none, .string ByteArray.empty]
theorem wC_at {w : World} {base cap n g : Nat} {WL : List (Nat × Bool)} (h : w.ownsRow base 55 10 (.slice (some ⟨g, 0, none⟩) n cap) n (WL.flatMap wC)) {m : Nat} {q : Nat × Bool} (hq : WL[m]? = some q) (hm : m < n) : ∀ j, j < 10 → w.cell? ⟨g, m * 10 + j, none⟩ = (wC q)[j]? := fun j hj => by
  rw [h.cellAt (m * 10 + j) (by omega)]
  exact flat_at wC 10 (fun _ => rfl) WL m q hq j hj
theorem tC_at {w : World} {base cap n g : Nat} {TL : List Nat} (h : w.ownsRow base 55 10 (.slice (some ⟨g, 0, none⟩) n cap) n (TL.flatMap tC)) {m k : Nat} (hq : TL[m]? = some k) (hm : m < n) : ∀ j, j < 10 → w.cell? ⟨g, m * 10 + j, none⟩ = (tC k)[j]? := fun j hj => by
  rw [h.cellAt (m * 10 + j) (by omega)]
  exact flat_at tC 10 (fun _ => rfl) TL m k hq j hj
/-- What is held: by workers that are at work, and by all that were tampered with. -/
def heldW (WL : List (Nat × Bool)) (x : Nat) : Bool := WL.any fun q => q.2 && q.1 == x
def heldS (WL : List (Nat × Bool)) (TL : List Nat) (x : Nat) : Bool := heldW WL x || TL.any fun k => k == x
theorem heldW_snoc (WL : List (Nat × Bool)) (q : Nat × Bool) : heldW (WL ++ [q]) = fun x => (q.2 && q.1 == x) || heldW WL x := by
  funext x
  simp [heldW, List.any_append, Bool.or_comm]
theorem heldS_snoc (WL : List (Nat × Bool)) (TL : List Nat) (k : Nat) : heldS WL (TL ++ [k]) = fun x => (k == x) || heldS WL TL x := by
  funext x
  simp only [heldS, List.any_append, List.any_cons, List.any_nil, Bool.or_false]
  cases heldW WL x <;> cases TL.any (fun k => k == x) <;> cases (k == x) <;> rfl
end Go.Proofs.Ybulkcstq
