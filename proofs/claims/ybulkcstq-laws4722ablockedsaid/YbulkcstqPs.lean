/-
  OUR OWN. 'LawS4722ABlocked': the map of the subtasks while it is laid.
-/
import Derived.Test.YbulkcstqRs
namespace Go.Proofs.Ybulkcstq
open Go.RowKit Go.Maps Go.WideMaps

/-- k subtasks are in. -/
structure PS (w wr : World) (k : Nat) (inP co : Nat → Bool) (dv : Nat → Value) (dl : Nat → List Nat) : Prop where
  map : HasMap wr Yba.prog 9 Lit.string w.heap.size k (onId (subH k inP co dv))
  rows : ∀ i, i < k → wr.ownsRow 0 9 1 (dv i) (dl i).length ((dl i).map sV)
  below : Below w.heap.size w wr
section
variable {w wr w1 : World} {k : Nat} {inP co : Nat → Bool} {dv : Nat → Value} {dl : Nat → List Nat}
theorem PS.start (w : World) (inP co : Nat → Bool) (dv : Nat → Value) (dl : Nat → List Nat) : PS w (w.alloc (.map #[] 0)) 0 inP co dv dl := by
  refine ⟨(HasMap.made w Yba.prog 9 Lit.string).congr (fun l => ?_), fun i hi => absurd hi (by omega), (Below.refl _ _).alloc (Nat.le_refl _) _⟩
  have e : subH 0 inP co dv = fun _ => none := by funext u; simp [subH]
  rw [e]
  have : ∀ k, onIdK (fun _ => none) k l = none := by
    intro k
    induction k with
    | zero => rfl
    | succ k ih => rw [onIdK, ih]; split <;> rfl
  exact (this 9).symm
theorem PS.later (h : PS w wr k inP co dv dl) (hb : Below wr.heap.size wr w1) : PS w w1 k inP co dv dl :=
  ⟨h.map.below hb h.map.lt, fun i hi => (h.rows i hi).kept (below_grown hb) (own_or _), h.below.trans (hb.mono h.below.size)⟩
theorem PS.drew (h : PS w wr k inP co dv dl) : PS w wr.drew k inP co dv dl := h.later (Below.drew (Below.refl _ _))
/-- 'subs[id] = Subtask{..}'. -/
theorem PS.put {sv : Value} {sz : Nat} (h : PS w wr k inP co dv dl) (hk : k < 9) (hsz : sz = if (onId (subH k inP co dv) (idl k)).isSome then k else k + 1) (hM : HasMap w1 Yba.prog 9 Lit.string w.heap.size sz (fun l => if l = idl k then some (subV (inP k) sv (co k)) else onId (subH k inP co dv) l)) (ht : wr.mapTurned w1 w.heap.size) (hrow : wr.ownsRow 0 9 1 sv (dl k).length ((dl k).map sV)) :
    PS w w1 (k + 1) inP co (fun i => if i = k then sv else dv i) dl := by
  have e0 : (onId (subH k inP co dv) (idl k)).isSome = false := by rw [onId_at _ hk, subH, if_neg (by omega)]; rfl
  rw [e0] at hsz
  have hsz' : sz = k + 1 := hsz
  subst hsz'
  have hg := ht.grown
  refine ⟨hM.congr (fun l => ?_), fun i hi => ?_, h.below.grown hg h.below.size (fun j hj => by cases hj; exact Nat.le_refl _)⟩
  · rw [onId_upd _ _ hk]
    congr 1
    funext j
    unfold subH
    by_cases e : j = k
    · subst e; simp
    · simp only [if_neg e]
      by_cases e2 : j < k
      · rw [if_pos e2, if_pos (show j < k + 1 by omega)]
      · rw [if_neg e2, if_neg (show ¬ j < k + 1 by omega)]
  · by_cases e : i = k
    · subst e
      simp only [if_true]
      exact kept_ne hrow hg (fun g hv e => map_row h.map hrow hv (Option.some.inj e))
    · simp only [if_neg e]
      have hr := h.rows i (by omega)
      exact kept_ne hr hg (fun g hv e => map_row h.map hr hv (Option.some.inj e))
end
end Go.Proofs.Ybulkcstq
