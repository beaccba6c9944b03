/-
  OUR OWN. What 'cascade' lists against the law's table, plain.
-/
import Derived.Test.YbulkcstqTail8
namespace Go.Proofs.Ybulkcstq
open Bfs

/-- What one root gives. -/
def rG (cand : List Nat → List Nat) (stop : Nat → Bool) (r : Nat) : List En := (ent cand stop r 10).map fun p => (p.1, r, p.2)
theorem rootsE_form (cand : List Nat → List Nat) (stop : Nat → Bool) (rts : List Nat) : ∃ ds : List Nat, ds.Nodup ∧ (∀ x, x ∈ ds ↔ x ∈ rts) ∧ rootsE cand stop rts = (fun x => decide (x ∈ ds), ds.flatMap (rG cand stop)) := by
  have key : ∀ m, m ≤ rts.length → ∃ ds : List Nat, ds.Nodup ∧ (∀ x, x ∈ ds ↔ x ∈ rts.take m) ∧ rootsE cand stop (rts.take m) = (fun x => decide (x ∈ ds), ds.flatMap (rG cand stop)) := by
    intro m
    induction m with
    | zero => intro _; exact ⟨[], by simp, by simp, by simp [rootsE]⟩
    | succ m ih =>
      intro hm
      obtain ⟨ds, h1, h2, h3⟩ := ih (by omega)
      have e : rts.take (m + 1) = rts.take m ++ [rts[m]] := List.take_succ_eq_append_getElem (by omega)
      rw [e, rootsE_snoc, h3, rE]
      by_cases hr : rts[m] ∈ ds
      · refine ⟨ds, h1, fun x => ?_, ?_⟩
        · rw [h2 x, List.mem_append, List.mem_singleton]
          refine ⟨.inl, fun h => ?_⟩
          rcases h with h | h
          · exact h
          · rw [h]; exact (h2 _).1 hr
        · rw [if_pos (by simpa using hr)]
      · refine ⟨ds ++ [rts[m]], ?_, fun x => ?_, ?_⟩
        · refine List.nodup_append.2 ⟨h1, by simp, fun a ha b hb => ?_⟩
          have : b = rts[m] := by simpa using hb
          intro e2
          rw [e2, this] at ha
          exact hr ha
        · rw [List.mem_append, List.mem_append, h2 x]
        · rw [if_neg (by simpa using hr)]
          refine Prod.ext (funext fun x => ?_) ?_
          · by_cases e : x = rts[m]
            · simp [e]
            · simp [e]
          · simp [rG]
  have := key rts.length (Nat.le_refl _)
  rwa [List.take_length] at this

/-- How many entries the law wants, from the roots below k. -/
def wantS (cand : List Nat → List Nat) (stop U : Nat → Bool) : Nat → Nat
  | 0 => 0
  | k + 1 => if U k then wantS cand stop U k + (ent cand stop k 10).length else wantS cand stop U k
theorem wantS_len (cand : List Nat → List Nat) (stop U : Nat → Bool) : ∀ k, (((List.range k).filter U).flatMap (rG cand stop)).length = wantS cand stop U k
  | 0 => rfl
  | k + 1 => by
    rw [List.range_succ, List.filter_append, List.flatMap_append, List.length_append, wantS_len cand stop U k, wantS]
    by_cases h : U k = true
    · rw [if_pos h]; simp [h, rG]
    · rw [if_neg h]; simp [h]
theorem wantS_le {cand : List Nat → List Nat} {stop U : Nat → Bool} (hc : ∀ l x, x ∈ cand l → x < 9) : ∀ k, k ≤ 9 → wantS cand stop U k ≤ 90 * k
  | 0, _ => by simp [wantS]
  | k + 1, h => by
    have := wantS_le (stop := stop) (U := U) hc k (by omega)
    have := ent_le (stop := stop) (show k < 9 by omega) hc 10
    rw [wantS]
    split <;> omega
theorem rG_mem {cand : List Nat → List Nat} {stop : Nat → Bool} {r : Nat} {e : En} : e ∈ rG cand stop r ↔ e.2.1 = r ∧ 1 ≤ e.2.2 ∧ e.2.2 ≤ 10 ∧ e.1 ∈ (st cand stop r e.2.2).2 := by
  obtain ⟨v, r', d⟩ := e
  unfold rG
  rw [List.mem_map]
  constructor
  · rintro ⟨⟨v', d'⟩, h, e⟩
    cases e
    have := ent_mem.1 h
    exact ⟨rfl, this⟩
  · rintro ⟨rfl, h⟩
    exact ⟨(v, d), ent_mem.2 h, rfl⟩
theorem rG_nodup {cand : List Nat → List Nat} {stop : Nat → Bool} : ∀ {ds : List Nat}, ds.Nodup → ((ds.flatMap (rG cand stop)).map fun e => (e.2.1, e.1)).Nodup
  | [], _ => by simp
  | r :: ds, h => by
    rw [List.nodup_cons] at h
    rw [List.flatMap_cons, List.map_append]
    refine List.nodup_append.2 ⟨?_, rG_nodup h.2, fun a ha b hb => ?_⟩
    · have e : ((rG cand stop r).map fun e => (e.2.1, e.1)) = ((ent cand stop r 10).map (·.1)).map fun v => (r, v) := by
        unfold rG
        rw [List.map_map, List.map_map]
        rfl
      rw [e]
      exact List.Pairwise.map _ (fun a b hab h => hab (by simpa using h)) (ent_nodup 10)
    · obtain ⟨e1, h1, rfl⟩ := List.mem_map.1 ha
      obtain ⟨e2, h2, rfl⟩ := List.mem_map.1 hb
      obtain ⟨r2, hr2, h2⟩ := List.mem_flatMap.1 h2
      have q1 := (rG_mem.1 h1).1
      have q2 := (rG_mem.1 h2).1
      intro e
      simp only [Prod.mk.injEq] at e
      apply h.1
      rw [← q1, e.1, q2]
      exact hr2

theorem dist_stop {cand : List Nat → List Nat} {stop : Nat → Bool} {r D : Nat} (h0 : cand [] = []) (h : (st cand stop r D).2 = []) : ∀ k v, dist cand stop r (D + k) v = dist cand stop r D v
  | 0, _ => rfl
  | k + 1, v => by
    show dist cand stop r (D + k + 1) v = _
    have h3 : (st cand stop r (D + k + 1)).2 = [] := (ent_stop h0 h (k + 1)).2
    rw [dist, h3, if_neg (by simp), dist_stop h0 h k v]

/-- The law's answer: what cascade lists is the table. -/
theorem roots_table {cA cB : List Nat → List Nat} {stop U : Nat → Bool} {rts : List Nat} (h : ∀ l l' : List Nat, (∀ x, x ∈ l ↔ x ∈ l') → ∀ x, x ∈ cA l ↔ x ∈ cB l') (hc : ∀ l x, x ∈ cB l → x < 9)
    (hr : ∀ r ∈ rts, r < 9) (hU : ∀ r, r < 9 → (U r = true ↔ r ∈ rts)) {E : List En} (hE : E = (rootsE cA stop rts).2) :
    E.length = wantS cB stop U 9 ∧ (∀ e ∈ E, e.1 < 9 ∧ e.2.1 < 9 ∧ U e.2.1 = true ∧ dist cB stop e.2.1 10 e.1 = (e.2.2 : Int) ∧ e.2.2 ≤ 100) ∧ (E.map fun e => (e.2.1, e.1)).Nodup := by
  obtain ⟨ds, h1, h2, h3⟩ := rootsE_form cA stop rts
  rw [h3] at hE
  subst hE
  refine ⟨?_, fun e he => ?_, rG_nodup h1⟩
  · rw [← wantS_len]
    have hp : ds.Perm ((List.range 9).filter U) := (List.perm_ext_iff_of_nodup h1 (List.nodup_range.filter _)).2 fun x => by
      rw [h2, List.mem_filter, List.mem_range]
      exact ⟨fun hx => ⟨hr x hx, (hU x (hr x hx)).2 hx⟩, fun hx => (hU x hx.1).1 hx.2⟩
    have e1 : (ds.flatMap (rG cA stop)).length = (ds.flatMap (rG cB stop)).length := by
      clear h1 h2 h3 hp
      induction ds with
      | nil => rfl
      | cons r ds ih => rw [List.flatMap_cons, List.flatMap_cons, List.length_append, List.length_append, ih, rG, rG, List.length_map, List.length_map, ent_len h 10]
    show (ds.flatMap (rG cA stop)).length = _
    rw [e1]
    exact (hp.flatMap_right _).length_eq
  · obtain ⟨r, hr1, he⟩ := List.mem_flatMap.1 he
    obtain ⟨q1, q2, q3, q4⟩ := rG_mem.1 he
    have hr9 : r < 9 := hr r ((h2 r).1 hr1)
    have q5 : e.1 ∈ (st cB stop r e.2.2).2 := ((st_two h e.2.2).2 e.1).1 q4
    rw [q1]
    exact ⟨st9 hr9 hc _ _ q5, hr9, (hU r hr9).2 ((h2 r).1 hr1), dist_of q2 q3 q5, by omega⟩
end Go.Proofs.Ybulkcstq
