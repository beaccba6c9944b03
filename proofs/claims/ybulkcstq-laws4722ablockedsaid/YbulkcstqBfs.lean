/-
  OUR OWN. The breadth-first walk of 'cascade' and of the law, plain: no Go in it.
-/
namespace Go.Proofs.Ybulkcstq.Bfs

/-- One candidate: where it was not reached it is marked, and kept for the next level unless it stops there. -/
def step (stop : Nat → Bool) (s : (Nat → Bool) × List Nat) (v : Nat) : (Nat → Bool) × List Nat :=
  if s.1 v then s else (fun x => x == v || s.1 x, if stop v then s.2 else s.2 ++ [v])
def run (stop : Nat → Bool) (s : (Nat → Bool) × List Nat) (cs : List Nat) : (Nat → Bool) × List Nat := cs.foldl (step stop) s

section
variable {stop : Nat → Bool}
theorem run_nil (s : (Nat → Bool) × List Nat) : run stop s [] = s := rfl
theorem run_cons (s : (Nat → Bool) × List Nat) (v : Nat) (cs : List Nat) : run stop s (v :: cs) = run stop (step stop s v) cs := rfl
theorem run_append (s : (Nat → Bool) × List Nat) (a b : List Nat) : run stop s (a ++ b) = run stop (run stop s a) b := List.foldl_append
theorem step_pos {s : (Nat → Bool) × List Nat} {v : Nat} (h : s.1 v = true) : step stop s v = s := by rw [step, if_pos h]
theorem step_neg {s : (Nat → Bool) × List Nat} {v : Nat} (h : s.1 v = false) : step stop s v = (fun x => x == v || s.1 x, if stop v then s.2 else s.2 ++ [v]) := by rw [step, if_neg (by simp [h])]

theorem run_reached : ∀ (cs : List Nat) (s : (Nat → Bool) × List Nat) (x : Nat), (run stop s cs).1 x = (s.1 x || decide (x ∈ cs))
  | [], s, x => by simp [run_nil]
  | v :: cs, s, x => by
    rw [run_cons, run_reached cs]
    by_cases h : s.1 v = true
    · rw [step_pos h]
      by_cases e : x = v
      · subst e; simp [h]
      · simp [e]
    · have h' : s.1 v = false := by simpa using h
      rw [step_neg h']
      by_cases e : x = v
      · subst e; simp
      · have e' : (x == v) = false := by simp [e]
        simp [e, e']
theorem run_mem : ∀ (cs : List Nat) (s : (Nat → Bool) × List Nat) (x : Nat), x ∈ (run stop s cs).2 ↔ x ∈ s.2 ∨ (x ∈ cs ∧ s.1 x = false ∧ stop x = false)
  | [], s, x => by simp [run_nil]
  | v :: cs, s, x => by
    rw [run_cons, run_mem cs]
    by_cases h : s.1 v = true
    · rw [step_pos h]
      by_cases e : x = v
      · subst e; simp [h]
      · simp [e]
    · have h' : s.1 v = false := by simpa using h
      rw [step_neg h']
      by_cases e : x = v
      · subst e
        by_cases hs : stop x = true <;> simp [hs, h']
      · by_cases hs : stop v = true <;> simp [hs, e]
theorem run_nodup : ∀ (cs : List Nat) (s : (Nat → Bool) × List Nat), s.2.Nodup → (∀ x ∈ s.2, s.1 x = true) → (run stop s cs).2.Nodup
  | [], s, h, _ => h
  | v :: cs, s, h, h2 => by
    rw [run_cons]
    by_cases hv : s.1 v = true
    · rw [step_pos hv]; exact run_nodup cs s h h2
    · have hv' : s.1 v = false := by simpa using hv
      rw [step_neg hv']
      by_cases hs : stop v = true
      · refine run_nodup cs _ (by simpa [hs] using h) (fun x hx => ?_)
        have : x ∈ s.2 := by simpa [hs] using hx
        simp [h2 x this]
      · have hs' : stop v = false := by simpa using hs
        refine run_nodup cs _ ?_ (fun x hx => ?_)
        · simp only [hs', Bool.false_eq_true, if_false]
          refine List.nodup_append.2 ⟨h, by simp, fun a ha b hb => ?_⟩
          have e : b = v := by simpa using hb
          intro hab
          rw [hab, e] at ha
          rw [h2 v ha] at hv'
          cases hv'
        · have hx' : x ∈ s.2 ∨ x = v := by simpa [hs'] using hx
          rcases hx' with hx' | hx'
          · simp [h2 x hx']
          · simp [hx']
end

/-- (reached, level) after d rounds. -/
def st (cand : List Nat → List Nat) (stop : Nat → Bool) (r : Nat) : Nat → (Nat → Bool) × List Nat
  | 0 => (fun x => x == r, [r])
  | d + 1 => run stop ((st cand stop r d).1, []) (cand (st cand stop r d).2)

section
variable {cA cB cand : List Nat → List Nat} {stop : Nat → Bool} {r : Nat}
theorem st_two (h : ∀ l l' : List Nat, (∀ x, x ∈ l ↔ x ∈ l') → ∀ x, x ∈ cA l ↔ x ∈ cB l') : ∀ d, (∀ x, (st cA stop r d).1 x = (st cB stop r d).1 x) ∧ ∀ x, x ∈ (st cA stop r d).2 ↔ x ∈ (st cB stop r d).2
  | 0 => ⟨fun _ => rfl, fun _ => Iff.rfl⟩
  | d + 1 => by
    obtain ⟨h1, h2⟩ := st_two h d
    have hc := h _ _ h2
    refine ⟨fun x => ?_, fun x => ?_⟩
    · rw [st, st, run_reached, run_reached, h1 x]
      simp only [hc x]
    · rw [st, st, run_mem, run_mem]
      simp only [hc x, h1 x, List.not_mem_nil, false_or]
theorem st_nodup : ∀ d, (st cand stop r d).2.Nodup
  | 0 => by simp [st]
  | d + 1 => run_nodup _ _ (by simp) (fun x hx => by simp at hx)
theorem st_len (h : ∀ l l' : List Nat, (∀ x, x ∈ l ↔ x ∈ l') → ∀ x, x ∈ cA l ↔ x ∈ cB l') (d : Nat) : (st cA stop r d).2.length = (st cB stop r d).2.length :=
  ((List.perm_ext_iff_of_nodup (st_nodup d) (st_nodup d)).2 (st_two h d).2).length_eq
theorem st_in {d x : Nat} (h : x ∈ (st cand stop r (d + 1)).2) : x ∈ cand (st cand stop r d).2 ∧ (st cand stop r d).1 x = false ∧ stop x = false := by
  rw [st, run_mem] at h
  simpa using h
theorem st_mono {d x : Nat} (h : (st cand stop r d).1 x = true) : (st cand stop r (d + 1)).1 x = true := by
  rw [st, run_reached]; simp [h]
theorem st_mono_le {x : Nat} : ∀ {d e : Nat}, d ≤ e → (st cand stop r d).1 x = true → (st cand stop r e).1 x = true
  | d, 0, h, hx => by obtain rfl : d = 0 := by omega
                      exact hx
  | d, e + 1, h, hx => by
    by_cases h1 : d = e + 1
    · subst h1; exact hx
    · exact st_mono (st_mono_le (by omega) hx)
theorem st_level_reached {x : Nat} : ∀ {d : Nat}, x ∈ (st cand stop r d).2 → (st cand stop r d).1 x = true
  | 0, h => by have : x = r := by simpa [st] using h
               simp [st, this]
  | d + 1, h => by
    have := (st_in h).1
    rw [st, run_reached]
    simp [this]
theorem st_unique {d e x : Nat} (hd : x ∈ (st cand stop r d).2) (he : x ∈ (st cand stop r e).2) : d = e := by
  have key : ∀ {d e : Nat}, d < e → x ∈ (st cand stop r d).2 → x ∈ (st cand stop r e).2 → False := by
    intro d e hde h1 h2
    obtain ⟨e', rfl⟩ : ∃ e', e = e' + 1 := ⟨e - 1, by omega⟩
    have h3 := (st_in h2).2.1
    rw [st_mono_le (by omega) (st_level_reached h1)] at h3
    cases h3
  rcases Nat.lt_trichotomy d e with h | h | h
  · exact (key h hd he).elim
  · exact h
  · exact (key h he hd).elim

theorem filter_lt {l : List Nat} {R R' : Nat → Bool} (hle : ∀ x, R x = true → R' x = true) {x : Nat} (hx : x ∈ l) (h1 : R x = false) (h2 : R' x = true) : (l.filter R).length < (l.filter R').length := by
  have hmono : ∀ m : List Nat, (m.filter R).length ≤ (m.filter R').length := by
    intro m
    induction m with
    | nil => simp
    | cons y m ih =>
      by_cases hy : R y = true
      · simp [hy, hle y hy, ih]
      · by_cases hy' : R' y = true <;> simp [hy, hy'] <;> omega
  induction l with
  | nil => simp at hx
  | cons y l ih =>
    rcases List.mem_cons.1 hx with rfl | hx
    · have := hmono l
      simp [h1, h2]
      omega
    · have := ih hx
      by_cases hy : R y = true
      · simp [hy, hle y hy, this]
      · by_cases hy' : R' y = true <;> simp [hy, hy'] <;> omega
theorem st_count (hc : ∀ l x, x ∈ cand l → x < 9) (h0 : cand [] = []) (hr : r < 9) : ∀ d, (st cand stop r d).2 ≠ [] → d + 1 ≤ ((List.range 9).filter (st cand stop r d).1).length
  | 0, _ => by
    have hm : r ∈ (List.range 9).filter (st cand stop r 0).1 := List.mem_filter.2 ⟨List.mem_range.2 hr, by simp [st]⟩
    exact List.length_pos_iff.2 (List.ne_nil_of_mem hm)
  | d + 1, h => by
    have h1 : (st cand stop r d).2 ≠ [] := by
      intro e
      apply h
      rw [st, e, h0, run_nil]
    have ih := st_count hc h0 hr d h1
    obtain ⟨x, hx⟩ := List.exists_mem_of_ne_nil _ h
    have hin := st_in hx
    have := filter_lt (l := List.range 9) (R := (st cand stop r d).1) (R' := (st cand stop r (d + 1)).1) (fun y hy => st_mono hy) (List.mem_range.2 (hc _ x hin.1)) hin.2.1 (st_level_reached hx)
    omega
theorem st_bound (hc : ∀ l x, x ∈ cand l → x < 9) (h0 : cand [] = []) (hr : r < 9) {d : Nat} (h : (st cand stop r d).2 ≠ []) : d ≤ 8 := by
  have h1 := st_count hc h0 hr d h
  have h2 : ((List.range 9).filter (st cand stop r d).1).length ≤ (List.range 9).length := List.length_filter_le _ _
  simp at h2
  omega
end

/-- What one root's walk lists, up to depth D: (subtask, depth). -/
def ent (cand : List Nat → List Nat) (stop : Nat → Bool) (r : Nat) : Nat → List (Nat × Nat)
  | 0 => []
  | D + 1 => ent cand stop r D ++ (st cand stop r (D + 1)).2.map fun v => (v, D + 1)
/-- The table of depths, up to depth D. -/
def dist (cand : List Nat → List Nat) (stop : Nat → Bool) (r : Nat) : Nat → Nat → Int
  | 0, _ => -1
  | D + 1, v => if v ∈ (st cand stop r (D + 1)).2 then (D + 1 : Nat) else dist cand stop r D v
section
variable {cA cB cand : List Nat → List Nat} {stop : Nat → Bool} {r : Nat}
theorem ent_mem {v d : Nat} : ∀ {D : Nat}, (v, d) ∈ ent cand stop r D ↔ 1 ≤ d ∧ d ≤ D ∧ v ∈ (st cand stop r d).2
  | 0 => by simp [ent]; omega
  | D + 1 => by
    rw [ent, List.mem_append, ent_mem]
    constructor
    · rintro (⟨h1, h2, h3⟩ | h)
      · exact ⟨h1, by omega, h3⟩
      · obtain ⟨u, hu, e⟩ := List.mem_map.1 h
        cases e
        exact ⟨by omega, by omega, hu⟩
    · rintro ⟨h1, h2, h3⟩
      by_cases e : d = D + 1
      · subst e; exact .inr (List.mem_map.2 ⟨v, h3, rfl⟩)
      · exact .inl ⟨h1, by omega, h3⟩
theorem ent_nodup : ∀ D, ((ent cand stop r D).map (·.1)).Nodup
  | 0 => by simp [ent]
  | D + 1 => by
    rw [ent, List.map_append]
    refine List.nodup_append.2 ⟨ent_nodup D, ?_, fun a ha b hb => ?_⟩
    · rw [List.map_map]
      have : ((fun x : Nat × Nat => x.1) ∘ fun v => (v, D + 1)) = id := rfl
      rw [this, List.map_id]
      exact st_nodup _
    · obtain ⟨⟨v, d⟩, h1, rfl⟩ := List.mem_map.1 ha
      obtain ⟨⟨v', d'⟩, h2, rfl⟩ := List.mem_map.1 hb
      obtain ⟨u, hu, e⟩ := List.mem_map.1 h2
      cases e
      have h3 := ent_mem.1 h1
      intro e
      simp only at e
      subst e
      have := st_unique h3.2.2 hu
      omega
theorem dist_of : ∀ {D d v : Nat}, 1 ≤ d → d ≤ D → v ∈ (st cand stop r d).2 → dist cand stop r D v = (d : Nat)
  | 0, d, v, h1, h2, _ => by omega
  | D + 1, d, v, h1, h2, h => by
    rw [dist]
    by_cases e : v ∈ (st cand stop r (D + 1)).2
    · rw [if_pos e, st_unique e h]
    · rw [if_neg e]
      refine dist_of h1 ?_ h
      rcases Nat.lt_or_ge D d with h3 | h3
      · obtain rfl : d = D + 1 := by omega
        exact absurd h e
      · exact h3
theorem ent_len (h : ∀ l l' : List Nat, (∀ x, x ∈ l ↔ x ∈ l') → ∀ x, x ∈ cA l ↔ x ∈ cB l') : ∀ D, (ent cA stop r D).length = (ent cB stop r D).length
  | 0 => rfl
  | D + 1 => by rw [ent, ent, List.length_append, List.length_append, List.length_map, List.length_map, ent_len h D, st_len h]
theorem ent_stop {D : Nat} (h0 : cand [] = []) (h : (st cand stop r D).2 = []) : ∀ k, ent cand stop r (D + k) = ent cand stop r D ∧ (st cand stop r (D + k)).2 = []
  | 0 => ⟨rfl, h⟩
  | k + 1 => by
    obtain ⟨h1, h2⟩ := ent_stop h0 h k
    have h3 : (st cand stop r (D + k + 1)).2 = [] := by rw [st, h2, h0, run_nil]
    refine ⟨?_, h3⟩
    show ent cand stop r (D + k + 1) = _
    rw [ent, h3, h1]
    simp
end
end Go.Proofs.Ybulkcstq.Bfs
