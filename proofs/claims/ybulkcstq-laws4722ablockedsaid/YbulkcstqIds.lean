/-
  OUR OWN. Maps whose keys are the nine ids; rows of ids that grow.
-/
import Derived.Test.YbulkcstqSmall
import Derived.Test.YbulkcstqBlk
import Derived.Laws.OwnMore
import Derived.Deep.AppendLies
import Derived.Deep.Onto
import Derived.Maps.RangeWalk
namespace Go.Proofs.Ybulkcstq
open Go.RowKit Go.Maps Go.WideMaps

abbrev sV (k : Nat) : Value := .string (idS k)
def idl (k : Nat) : List UInt8 := [letter k]
theorem idS_data (k : Nat) : (idS k).data.toList = idl k := rfl
theorem idl_inj {j k : Nat} (hj : j < 9) (hk : k < 9) (h : idl j = idl k) : j = k := by
  have : ∀ j, j < 9 → ∀ k, k < 9 → idl j = idl k → j = k := by decide
  exact this j hj k hk h
theorem keyId (k : Nat) : keyOf Yba.prog 9 (sV k) = some (.string (idl k)) := keyOf_string_mk Yba.underlying9 (by show 1 ≤ maxLen; unfold maxLen; omega)

/-- What a map holds, told by the ids' numbers. -/
def onIdK (h : Nat → Option Value) : Nat → List UInt8 → Option Value
  | 0, _ => none
  | k + 1, l => if l = idl k then h k else onIdK h k l
abbrev onId (h : Nat → Option Value) : List UInt8 → Option Value := onIdK h 9
theorem onIdK_at (h : Nat → Option Value) {u : Nat} : ∀ {k : Nat}, u < k → k ≤ 9 → onIdK h k (idl u) = h u
  | 0, hu, _ => by omega
  | k + 1, hu, hk => by
    rw [onIdK]
    by_cases e : u = k
    · subst e; rw [if_pos rfl]
    · rw [if_neg (fun h => e (idl_inj (by omega) (by omega) h)), onIdK_at h (by omega) (by omega)]
theorem onId_at (h : Nat → Option Value) {u : Nat} (hu : u < 9) : onId h (idl u) = h u := onIdK_at h hu (Nat.le_refl _)
theorem onIdK_upd (h : Nat → Option Value) (val : Value) {u : Nat} (l : List UInt8) : ∀ {k : Nat}, u < k → k ≤ 9 → (if l = idl u then some val else onIdK h k l) = onIdK (fun j => if j = u then some val else h j) k l
  | 0, hu, _ => by omega
  | k + 1, hu, hk => by
    rw [onIdK, onIdK]
    by_cases e : u = k
    · subst e
      by_cases hl : l = idl u
      · simp [hl]
      · simp only [hl, if_false]
        have : ∀ m, m ≤ u → onIdK h m l = onIdK (fun j => if j = u then some val else h j) m l := by
          intro m
          induction m with
          | zero => intro _; rfl
          | succ m ih =>
            intro hm
            rw [onIdK, onIdK, ih (by omega), if_neg (show ¬ m = u by omega)]
        exact this u (Nat.le_refl _)
    · by_cases hl : l = idl k
      · subst hl
        rw [if_neg (fun h => e (idl_inj (by omega) (by omega) h).symm)]
        simp only [if_true]
        rw [if_neg (fun h => e h.symm)]
      · simp only [hl, if_false]
        exact onIdK_upd h val l (by omega) (by omega)
theorem onId_upd (h : Nat → Option Value) (val : Value) {u : Nat} (hu : u < 9) (l : List UInt8) : (if l = idl u then some val else onId h l) = onId (fun j => if j = u then some val else h j) l := onIdK_upd h val l hu (Nat.le_refl _)
theorem onIdK_some {h : Nat → Option Value} {l : List UInt8} : ∀ {k : Nat}, (onIdK h k l).isSome = true → ∃ u, u < k ∧ l = idl u ∧ (h u).isSome = true
  | 0, hs => by simp [onIdK] at hs
  | k + 1, hs => by
    rw [onIdK] at hs
    by_cases e : l = idl k
    · rw [if_pos e] at hs; exact ⟨k, by omega, e, hs⟩
    · rw [if_neg e] at hs
      obtain ⟨u, h1, h2⟩ := onIdK_some hs
      exact ⟨u, by omega, h2⟩

/-- Nine rows of ids, each in a block of its own. -/
structure Rows9 (w : World) (base : Nat) (rv : Nat → Value) (dep : Nat → List Nat) : Prop where
  own : ∀ u, u < 9 → w.ownsRow base 9 1 (rv u) (dep u).length ((dep u).map sV)
  apart : ∀ u u', u < 9 → u' < 9 → u ≠ u' → ∀ g, (rv u).ownBlock = some g → (rv u').ownBlock ≠ some g
theorem below_grown {w w' : World} (h : Below w.heap.size w w') : w.grownBy w' none := ⟨h.os, h.tape, h.output, h.size, fun k hk _ => h.block k hk⟩
theorem own_or (v : Value) : v.ownBlock = none ∨ v.ownBlock ≠ none := by cases v.ownBlock <;> simp
section
variable {w w1 : World} {base : Nat} {rv : Nat → Value} {dep : Nat → List Nat}
theorem Rows9.start (w : World) (base : Nat) : Rows9 w base (fun _ => .slice none 0 0) (fun _ => []) :=
  ⟨fun _ _ => World.ownsRow_nil _ _ _ _, fun _ _ _ _ _ g hg => by simp [Value.ownBlock] at hg⟩
theorem Rows9.kept {row : Option Nat} (h : Rows9 w base rv dep) (hg : w.grownBy w1 row) (hne : ∀ u, u < 9 → (rv u).ownBlock = none ∨ (rv u).ownBlock ≠ row) : Rows9 w1 base rv dep :=
  ⟨fun u hu => (h.own u hu).kept hg (hne u hu), h.apart⟩
theorem Rows9.below (h : Rows9 w base rv dep) (hb : Below w.heap.size w w1) : Rows9 w1 base rv dep := h.kept (below_grown hb) (fun _ _ => own_or _)
theorem Rows9.alloc (h : Rows9 w base rv dep) (o : Obj) : Rows9 (w.alloc o) base rv dep := ⟨fun u hu => (h.own u hu).alloc o, h.apart⟩
theorem Rows9.push (h : Rows9 w base rv dep) {u g cap H x : Nat} (hu : u < 9)
    (hown : w1.ownsRow base 9 1 (.slice (some ⟨g, 0, none⟩) ((dep u).length + 1) cap) ((dep u).length + 1) ((dep u).map sV ++ [sV x])) (hg : w.grownBy w1 (rv u).ownBlock) (hat : (rv u).ownBlock = some g ∨ g = H) (hH : w.heap.size ≤ H) :
    Rows9 w1 base (fun j => if j = u then .slice (some ⟨g, 0, none⟩) ((dep u).length + 1) cap else rv j) (fun j => if j = u then dep u ++ [x] else dep j) := by
  refine ⟨fun j hj => ?_, fun a b ha hb hne g' hga hgb => ?_⟩
  · by_cases e : j = u
    · subst e
      simp only [if_true]
      simpa using hown
    · simp only [if_neg e]
      refine (h.own j hj).kept hg ?_
      cases hv : (rv j).ownBlock with
      | none => exact .inl rfl
      | some b => exact .inr fun e2 => h.apart j u hj hu e b hv e2.symm
  · by_cases ea : a = u
    · subst ea
      have eb : ¬ b = a := fun e => hne e.symm
      simp only [if_true, if_neg eb] at hga hgb
      simp [Value.ownBlock] at hga
      subst hga
      rcases hat with hat | hat
      · exact h.apart a b ha hb hne _ hat hgb
      · have := ((h.own b hb).lt _ hgb).2; omega
    · simp only [if_neg ea] at hga
      by_cases eb : b = u
      · subst eb
        simp only [if_true] at hgb
        simp [Value.ownBlock] at hgb
        subst hgb
        rcases hat with hat | hat
        · exact h.apart a b ha hb hne _ hga hat
        · have := ((h.own a ha).lt _ hga).2; omega
      · simp only [if_neg eb] at hgb
        exact h.apart a b ha hb hne g' hga hgb
end
end Go.Proofs.Ybulkcstq
