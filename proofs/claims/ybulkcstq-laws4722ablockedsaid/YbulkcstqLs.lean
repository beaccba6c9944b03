/-
  OUR OWN. 'LawS4722ABlocked': the law's own walk: its state.
-/
import Derived.Test.YbulkcstqArr
import Derived.Test.YbulkcstqPlain
namespace Go.Proofs.Ybulkcstq
open Go.RowKit Bfs

abbrev iV (k : Nat) : Value := .int .i64 (k : Int)
theorem info3 : (Yba.prog.info? 3).map (fun i => (i.zero, i.size, i.bytes)) = some (some (.int .i64 0), 1, 8) := by kernel_rfl

abbrev dG (D : Nat → Nat → Int) : Nat → Value := gridF fun r v => .int .i64 (D r v)
/-- The state while the law walks from one root: the table, what is reached, the level, the next level. -/
structure LS (w3 w : World) (reb : Nat) (D : Nat → Nat → Int) (R : Nat → Bool) (lv nv : Value) (lev nxt : List Nat) : Prop where
  below : Below w3.heap.size w3 w
  dist : Arr w w3.heap.size 81 (dG D)
  re : Arr w reb 9 (boolF R)
  reB : w3.heap.size < reb
  lev : w.ownsRow (reb + 1) 3 1 lv lev.length (lev.map iV)
  nxt : w.ownsRow (reb + 1) 3 1 nv nxt.length (nxt.map iV)
  apart : ∀ g, lv.ownBlock = some g → nv.ownBlock ≠ some g
section
variable {w3 w w1 : World} {reb : Nat} {D : Nat → Nat → Int} {R : Nat → Bool} {lv nv : Value} {lev nxt : List Nat}
theorem row_set {w : World} {base n size : Nat} {e : TypeId} {v : Value} {xs : List Value} (h : w.ownsRow base e size v n xs) {a : Addr} (ha : a.block < base) (x : Value) : (w.setCell a x).ownsRow base e size v n xs := by
  refine h.kept (row := some a.block) ⟨rfl, rfl, rfl, by simp [World.setCell], fun k _ hne => Below.heap_setCell _ _ _ _ (fun e => hne (by rw [e]))⟩ ?_
  cases hv : v.ownBlock with
  | none => exact .inl rfl
  | some g => exact .inr fun e => by have := (h.lt g hv).1; have := Option.some.inj e; omega
theorem LS.later (h : LS w3 w reb D R lv nv lev nxt) (hb : Below w.heap.size w w1) : LS w3 w1 reb D R lv nv lev nxt :=
  ⟨h.below.trans (hb.mono h.below.size), h.dist.below hb h.dist.lt, h.re.below hb h.re.lt, h.reB, h.lev.kept (below_grown hb) (own_or _), h.nxt.kept (below_grown hb) (own_or _), h.apart⟩
theorem LS.alloc (h : LS w3 w reb D R lv nv lev nxt) (o : Obj) : LS w3 (w.alloc o) reb D R lv nv lev nxt := h.later ((Below.refl _ _).alloc (Nat.le_refl _) o)
/-- 'reached[v] = true'. -/
theorem LS.reach (h : LS w3 w reb D R lv nv lev nxt) (v : Nat) : LS w3 (w.setCell ⟨reb, v, none⟩ (.bool true)) reb D (fun x => x == v || R x) lv nv lev nxt := by
  have hB := h.reB
  refine ⟨h.below.setCell (Nat.le_of_lt hB) _, h.dist.other (a := ⟨reb, v, none⟩) (by show w3.heap.size ≠ reb; omega) _, ?_, hB, row_set h.lev (by show reb < _; omega) _, row_set h.nxt (by show reb < _; omega) _, h.apart⟩
  have h2 := h.re.set v (.bool true)
  rw [boolF_set] at h2
  refine h2.congr fun i _ => ?_
  unfold boolF
  by_cases e : i = v <;> simp [e]
/-- 'dist[r][v] = depth'. -/
theorem LS.put (h : LS w3 w reb D R lv nv lev nxt) (r : Nat) {v : Nat} (hv : v < 9) (d : Int) : LS w3 (w.setCell ⟨w3.heap.size, r * 9 + v, none⟩ (.int .i64 d)) reb (fun r' v' => if r' = r ∧ v' = v then d else D r' v') R lv nv lev nxt := by
  have hB := h.reB
  refine ⟨h.below.setCell (Nat.le_refl _) _, ?_, h.re.other (a := ⟨w3.heap.size, r * 9 + v, none⟩) (by show reb ≠ w3.heap.size; omega) _, hB, row_set h.lev (by show w3.heap.size < _; omega) _, row_set h.nxt (by show w3.heap.size < _; omega) _, h.apart⟩
  have h2 := h.dist.set (r * 9 + v) (.int .i64 d)
  rw [gridF_set _ hv] at h2
  refine h2.congr fun i _ => ?_
  show (if i / 9 = r ∧ i % 9 = v then Value.int IntKind.i64 d else Value.int IntKind.i64 (D (i / 9) (i % 9))) = Value.int IntKind.i64 (if i / 9 = r ∧ i % 9 = v then d else D (i / 9) (i % 9))
  split <;> rfl
theorem LS.same (h : LS w3 w reb D R lv nv lev nxt) {D' : Nat → Nat → Int} (e : ∀ r v, v < 9 → D r v = D' r v) : LS w3 w reb D' R lv nv lev nxt :=
  ⟨h.below, h.dist.congr (fun i _ => by show Value.int IntKind.i64 (D (i / 9) (i % 9)) = Value.int IntKind.i64 (D' (i / 9) (i % 9)); rw [e _ _ (Nat.mod_lt _ (by omega))]), h.re, h.reB, h.lev, h.nxt, h.apart⟩
/-- 'next = append(next, v)'. -/
theorem LS.push {g cap H x : Nat} {O : Obj} (h : LS w3 w reb D R lv nv lev nxt) (hown : w1.ownsRow (reb + 1) 3 1 (.slice (some ⟨g, 0, none⟩) (nxt.length + 1) cap) (nxt.length + 1) (nxt.map iV ++ [iV x])) (hg : (w.alloc O).grownBy w1 nv.ownBlock) (hat : nv.ownBlock = some g ∨ g = H) (hH : (w.alloc O).heap.size ≤ H) :
    LS w3 w1 reb D R lv (.slice (some ⟨g, 0, none⟩) (nxt.length + 1) cap) lev (nxt ++ [x]) := by
  have h := h.alloc O
  have hB := h.reB
  refine ⟨h.below.grown hg h.below.size (fun k hk => by have := (h.nxt.lt k hk).1; omega), h.dist.grown hg (fun e => by have := (h.nxt.lt _ e.symm).1; omega), h.re.grown hg (fun e => by have := (h.nxt.lt _ e.symm).1; omega), hB,
    kept_ne h.lev hg (fun g hv e => h.apart g hv e), by simpa using hown, fun g' hv e => ?_⟩
  simp [Value.ownBlock] at e
  subst e
  rcases hat with hat | hat
  · exact h.apart _ hv hat
  · have := (h.lev.lt _ hv).2; omega
/-- 'level = next', a new 'next'. -/
theorem LS.turn (h : LS w3 w reb D R lv nv lev nxt) : LS w3 w reb D R nv (.slice none 0 0) nxt [] :=
  ⟨h.below, h.dist, h.re, h.reB, h.nxt, World.ownsRow_nil _ _ _ _, fun g _ e => by simp [Value.ownBlock] at e⟩
theorem row_one (w : World) (base r : Nat) (hb : base ≤ w.heap.size) : (w.alloc (.cells #[iV r] 3)).ownsRow base 3 1 (.slice (some ⟨w.heap.size, 0, none⟩) 1 1) [r].length ([r].map iV) := by
  refine ⟨rfl, .inr ⟨w.heap.size, 1, #[iV r], rfl, hb, ?_, Nat.le_refl _, by unfold maxLen; omega, rfl, rfl⟩⟩
  show (w.heap.push _)[w.heap.size]? = _
  simp
theorem zb9_set {r : Nat} (hr : r < 9) : (zb9.setIfInBounds r (.bool true)).toList = (List.range 9).map (boolF fun x => x == r) := by
  rcases (show r = 0 ∨ r = 1 ∨ r = 2 ∨ r = 3 ∨ r = 4 ∨ r = 5 ∨ r = 6 ∨ r = 7 ∨ r = 8 by omega) with rfl | rfl | rfl | rfl | rfl | rfl | rfl | rfl | rfl <;> rfl
/-- A root's walk begins. -/
theorem LS.start {r : Nat} (hr : r < 9) (hb : Below w3.heap.size w3 w) (hd : Arr w w3.heap.size 81 (dG D)) : LS w3 ((w.alloc (.cells (zb9.setIfInBounds r (.bool true)) 41)).alloc (.cells #[iV r] 3)) w.heap.size D (fun x => x == r) (.slice (some ⟨w.heap.size + 1, 0, none⟩) 1 1) (.slice none 0 0) [r] [] := by
  have h2 := Arr.made w (zb9.setIfInBounds r (.bool true)) 41 (zb9_set hr)
  have hlt := hd.lt
  have hrow := row_one (w.alloc (.cells (zb9.setIfInBounds r (.bool true)) 41)) (w.heap.size + 1) r (by simp)
  rw [World.size_alloc] at hrow
  exact ⟨(hb.alloc hb.size _).alloc (by simp; omega) _, (hd.alloc _).alloc _, h2.alloc _, hlt, hrow, World.ownsRow_nil _ _ _ _, fun g _ e => by simp [Value.ownBlock] at e⟩
end

/-- The law's candidates from a level. -/
def candL (n : Nat) (A : Nat → Nat → Bool) (l : List Nat) : List Nat := l.flatMap fun u => (List.range n).filter (A u)
/-- The law's table when the roots below k are done. -/
def tabL (cand : List Nat → List Nat) (stop U : Nat → Bool) (k r v : Nat) : Int := if r < k then (if U r then dist cand stop r 10 v else -1) else 0
/-- Inside a round: what is new is at depth dd. -/
def tabD (D : Nat → Nat → Int) (r : Nat) (nx : List Nat) (dd : Nat) (r' v : Nat) : Int := if r' = r ∧ v ∈ nx then (dd : Int) else D r' v
theorem tabD_nil (D : Nat → Nat → Int) (r dd : Nat) : tabD D r [] dd = D := by funext r' v; simp [tabD]
theorem tabD_snoc (D : Nat → Nat → Int) (r : Nat) (nx : List Nat) (dd v : Nat) (r' v' : Nat) : tabD D r (nx ++ [v]) dd r' v' = if r' = r ∧ v' = v then (dd : Int) else tabD D r nx dd r' v' := by
  unfold tabD
  by_cases h : r' = r ∧ v' = v
  · simp [h]
  · rw [if_neg h]
    by_cases hr : r' = r
    · subst hr
      have hv : v' ≠ v := fun e => h ⟨rfl, e⟩
      simp [hv]
    · simp [hr]
theorem tabL_unused {cand : List Nat → List Nat} {stop U : Nat → Bool} {k r v : Nat} (hU : U k = false) (hv : v < 9) : (if r = k ∧ v < 9 then -1 else tabL cand stop U k r v) = tabL cand stop U (k + 1) r v := by
  unfold tabL
  by_cases h1 : r = k
  · subst h1
    rw [if_pos ⟨rfl, hv⟩, if_pos (Nat.lt_succ_self r), hU]; rfl
  · rw [if_neg (fun h => h1 h.1)]
    by_cases h2 : r < k
    · rw [if_pos h2, if_pos (show r < k + 1 by omega)]
    · rw [if_neg h2, if_neg (show ¬ r < k + 1 by omega)]
/-- The table while root k is walked, behind depth d. -/
def tabK (cand : List Nat → List Nat) (stop U : Nat → Bool) (k d r v : Nat) : Int := if r = k then dist cand stop k d v else tabL cand stop U k r v
theorem tabK_zero (cand : List Nat → List Nat) (stop U : Nat → Bool) (k r v : Nat) (hv : v < 9) : (if r = k ∧ v < 9 then -1 else tabL cand stop U k r v) = tabK cand stop U k 0 r v := by
  unfold tabK
  by_cases h1 : r = k
  · rw [if_pos ⟨h1, hv⟩, if_pos h1]; rfl
  · rw [if_neg (fun h => h1 h.1), if_neg h1]
theorem tabK_succ (cand : List Nat → List Nat) (stop U : Nat → Bool) (k d r v : Nat) : tabD (tabK cand stop U k d) k (st cand stop k (d + 1)).2 (d + 1) r v = tabK cand stop U k (d + 1) r v := by
  unfold tabD tabK
  by_cases h1 : r = k
  · rw [if_pos h1, if_pos h1, dist]
    by_cases h2 : v ∈ (st cand stop k (d + 1)).2
    · rw [if_pos ⟨h1, h2⟩, if_pos h2]
    · rw [if_neg (fun h => h2 h.2), if_neg h2]
  · rw [if_neg (fun h => h1 h.1), if_neg h1, if_neg h1]
theorem tabK_last {cand : List Nat → List Nat} {stop U : Nat → Bool} {k d : Nat} (hU : U k = true) (h0 : cand [] = []) (hd : d ≤ 10) (h : (st cand stop k d).2 = []) (r v : Nat) : tabK cand stop U k d r v = tabL cand stop U (k + 1) r v := by
  have e := dist_stop (stop := stop) h0 h (10 - d) v
  rw [show d + (10 - d) = 10 by omega] at e
  unfold tabK tabL
  by_cases h1 : r = k
  · rw [if_pos h1, if_pos (show r < k + 1 by omega), h1, hU, ← e]; rfl
  · rw [if_neg h1]
    by_cases h2 : r < k
    · rw [if_pos h2, if_pos (show r < k + 1 by omega)]
    · rw [if_neg h2, if_neg (show ¬ r < k + 1 by omega)]
theorem dG_congr {w : World} {b : Nat} {D D' : Nat → Nat → Int} (h : Arr w b 81 (dG D)) (e : ∀ r v, v < 9 → D r v = D' r v) : Arr w b 81 (dG D') :=
  h.congr fun i _ => by show Value.int IntKind.i64 (D (i / 9) (i % 9)) = Value.int IntKind.i64 (D' (i / 9) (i % 9)); rw [e _ _ (Nat.mod_lt _ (by omega))]
theorem filter_range_succ (p : Nat → Bool) (b : Nat) : (List.range (b + 1)).filter p = if p b then (List.range b).filter p ++ [b] else (List.range b).filter p := by
  rw [List.range_succ, List.filter_append]
  by_cases h : p b = true
  · simp [h]
  · simp [h]
end Go.Proofs.Ybulkcstq
