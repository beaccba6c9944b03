/-
  OUR OWN. 'cascade' (function 7): its state.
-/
import Derived.Test.YbulkcstqDeps
import Derived.Test.YbulkcstqBfs
namespace Go.Proofs.Ybulkcstq
open Go.RowKit Go.Maps Go.WideMaps

theorem zero4 (w : World) : (zeroValue 4).run Yba.prog w = .ok (.bool false) w := by kernel_rfl
theorem info64 : (Yba.prog.info? 64).map (fun i => (i.zero, i.size, i.bytes)) = some (some (.agg #[.string ByteArray.empty, .string ByteArray.empty, .int .i64 0, .int .i64 0]), 4, 48) := by kernel_rfl

def setH (S : Nat → Bool) (u : Nat) : Option Value := if S u then some (.bool true) else none
/-- A map from ids to true: a set. -/
def SetMap (w : World) (b N : Nat) (S : Nat → Bool) : Prop := ∃ sz, sz ≤ N ∧ HasMap w Yba.prog 9 Lit.string b sz (onId (setH S))
section
variable {w w' : World} {b N : Nat} {S : Nat → Bool}
theorem SetMap.lt (h : SetMap w b N S) : b < w.heap.size := by obtain ⟨sz, _, h⟩ := h; exact h.lt
theorem SetMap.block (h : SetMap w b N S) (e : w'.heap[b]? = w.heap[b]?) : SetMap w' b N S := by obtain ⟨sz, h1, h⟩ := h; exact ⟨sz, h1, h.block e⟩
theorem SetMap.more (h : SetMap w b N S) {N' : Nat} (hN : N ≤ N') : SetMap w b N' S := by obtain ⟨sz, h1, h⟩ := h; exact ⟨sz, Nat.le_trans h1 hN, h⟩
theorem SetMap.made (w : World) : SetMap (w.alloc (.map #[] 0)) w.heap.size 0 (fun _ => false) := by
  refine ⟨0, Nat.le_refl _, (HasMap.made w Yba.prog 9 Lit.string).congr (fun l => ?_)⟩
  have e : setH (fun _ => false) = fun _ => none := by funext u; simp [setH]
  rw [e]
  have : ∀ k, onIdK (fun _ => none) k l = none := by
    intro k
    induction k with
    | zero => rfl
    | succ k ih => rw [onIdK, ih]; split <;> rfl
  exact (this 9).symm
theorem setH_at (S : Nat → Bool) {u : Nat} (hu : u < 9) : (onId (setH S) (idl u)).getD (.bool false) = .bool (S u) := by
  rw [onId_at _ hu, setH]
  cases S u <;> rfl
theorem SetMap.put {sz u : Nat} (hs : sz ≤ N) (hu : u < 9) (hM : HasMap w' Yba.prog 9 Lit.string b (if (onId (setH S) (idl u)).isSome then sz else sz + 1) (fun l => if l = idl u then some (.bool true) else onId (setH S) l)) :
    SetMap w' b (N + 1) (fun x => x == u || S x) := by
  refine ⟨_, ?_, hM.congr (fun l => ?_)⟩
  · split <;> omega
  · rw [onId_upd _ _ hu]
    congr 1
    funext j
    unfold setH
    by_cases e : j = u <;> simp [e]
end

/-- An entry: (blocked, waiting on, depth). -/
abbrev En := Nat × Nat × Nat
def eC (e : En) : List Value := [sV e.1, sV e.2.1, .int .i64 e.2.2, .int .i64 (riskN e.2.2)]

/-- The state while one root is walked. -/
structure CS (w0 w : World) (wkb rb N : Nat) (Wd R : Nat → Bool) (ev lv nv : Value) (E : List En) (lev nxt : List Nat) : Prop where
  below : Below w0.heap.size w0 w
  wk : SetMap w wkb N Wd
  wkB : w0.heap.size ≤ wkb
  re : SetMap w rb N R
  reB : w0.heap.size ≤ rb
  ne : wkb ≠ rb
  ent : w.ownsRow w0.heap.size 64 4 ev E.length (E.flatMap eC)
  lev : w.ownsRow w0.heap.size 9 1 lv lev.length (lev.map sV)
  nxt : w.ownsRow w0.heap.size 9 1 nv nxt.length (nxt.map sV)
  apart : ∀ g, lv.ownBlock = some g → nv.ownBlock ≠ some g

theorem map_row {w : World} {b g sz base n size : Nat} {e : TypeId} {v : Value} {xs : List Value} {f : List UInt8 → Option Value} (hM : HasMap w Yba.prog 9 Lit.string b sz f) (hr : w.ownsRow base e size v n xs) (hg : v.ownBlock = some g) : b ≠ g := by
  intro h
  subst h
  obtain ⟨D, ⟨es, clock, h1, _⟩, _⟩ := hM
  rcases hr.2 with ⟨rfl, _⟩ | ⟨g', cap, cur, rfl, _, h2, _⟩
  · simp [Value.ownBlock] at hg
  · simp [Value.ownBlock] at hg
    subst hg
    rw [h1] at h2
    cases h2
theorem row_row {w : World} {base n size base' n' size' : Nat} {e e' : TypeId} {v v' : Value} {xs xs' : List Value} (hr : w.ownsRow base e size v n xs) (hr' : w.ownsRow base' e' size' v' n' xs') (he : e ≠ e') {g : Nat} (hg : v.ownBlock = some g) : v'.ownBlock ≠ some g := by
  intro hg'
  rcases hr.2 with ⟨rfl, _⟩ | ⟨g1, cap, cur, rfl, _, h2, _⟩
  · simp [Value.ownBlock] at hg
  · rcases hr'.2 with ⟨rfl, _⟩ | ⟨g2, cap', cur', rfl, _, h3, _⟩
    · simp [Value.ownBlock] at hg'
    · simp [Value.ownBlock] at hg hg'
      subst hg hg'
      rw [h2] at h3
      simp at h3
      exact he h3.2
theorem kept_ne {w w' : World} {base n size : Nat} {e : TypeId} {v : Value} {xs : List Value} {row : Option Nat} (h : w.ownsRow base e size v n xs) (hg : w.grownBy w' row) (hne : ∀ g, v.ownBlock = some g → row ≠ some g) : w'.ownsRow base e size v n xs := by
  refine h.kept hg ?_
  cases hv : v.ownBlock with
  | none => exact .inl rfl
  | some g => exact .inr fun e => hne g hv e.symm

section
variable {w0 w w1 w2 : World} {wkb rb N : Nat} {Wd R : Nat → Bool} {ev lv nv : Value} {E : List En} {lev nxt : List Nat}
theorem CS.later (h : CS w0 w wkb rb N Wd R ev lv nv E lev nxt) (hb : Below w.heap.size w w1) : CS w0 w1 wkb rb N Wd R ev lv nv E lev nxt :=
  ⟨h.below.trans (hb.mono h.below.size), h.wk.block (hb.block _ h.wk.lt), h.wkB, h.re.block (hb.block _ h.re.lt), h.reB, h.ne, h.ent.kept (below_grown hb) (own_or _), h.lev.kept (below_grown hb) (own_or _), h.nxt.kept (below_grown hb) (own_or _), h.apart⟩
theorem CS.alloc (h : CS w0 w wkb rb N Wd R ev lv nv E lev nxt) (o : Obj) : CS w0 (w.alloc o) wkb rb N Wd R ev lv nv E lev nxt := h.later ((Below.refl _ _).alloc (Nat.le_refl _) o)
/-- 'reached[d] = true'. -/
theorem CS.reach {R' : Nat → Bool} (h : CS w0 w wkb rb N Wd R ev lv nv E lev nxt) (hM : SetMap w1 rb (N + 1) R') (ht : w.mapTurned w1 rb) : CS w0 w1 wkb rb (N + 1) Wd R' ev lv nv E lev nxt := by
  have hg := ht.grown
  obtain ⟨sz, _, hm⟩ := h.re
  exact ⟨h.below.grown hg h.below.size (fun k hk => by cases hk; exact h.reB), (h.wk.block (hg.block _ h.wk.lt (fun e => h.ne (Option.some.inj e)))).more (by omega), h.wkB, hM, h.reB, h.ne,
    kept_ne h.ent hg (fun g hv e => map_row hm h.ent hv (Option.some.inj e)), kept_ne h.lev hg (fun g hv e => map_row hm h.lev hv (Option.some.inj e)), kept_ne h.nxt hg (fun g hv e => map_row hm h.nxt hv (Option.some.inj e)), h.apart⟩
/-- 'entries = append(entries, ..)'. -/
theorem CS.pushE {g cap : Nat} {x : En} {O : Obj} (h : CS w0 w wkb rb N Wd R ev lv nv E lev nxt) (hown : w1.ownsRow w0.heap.size 64 4 (.slice (some ⟨g, 0, none⟩) (E.length + 1) cap) (E.length + 1) (E.flatMap eC ++ eC x)) (hg : (w.alloc O).grownBy w1 ev.ownBlock) :
    CS w0 w1 wkb rb N Wd R (.slice (some ⟨g, 0, none⟩) (E.length + 1) cap) lv nv (E ++ [x]) lev nxt := by
  have h := h.alloc O
  obtain ⟨s1, _, hm1⟩ := h.wk
  obtain ⟨s2, _, hm2⟩ := h.re
  refine ⟨h.below.grown hg h.below.size (fun k hk => (h.ent.lt k hk).1), h.wk.block (hg.block _ h.wk.lt (fun e => map_row hm1 h.ent e.symm rfl)), h.wkB, h.re.block (hg.block _ h.re.lt (fun e => map_row hm2 h.ent e.symm rfl)), h.reB, h.ne, by simpa using hown,
    kept_ne h.lev hg (fun g hv e => row_row h.lev h.ent (by decide) hv e), kept_ne h.nxt hg (fun g hv e => row_row h.nxt h.ent (by decide) hv e), h.apart⟩
/-- 'next = append(next, d)'. -/
theorem CS.pushN {g cap H x : Nat} {O : Obj} (h : CS w0 w wkb rb N Wd R ev lv nv E lev nxt) (hown : w1.ownsRow w0.heap.size 9 1 (.slice (some ⟨g, 0, none⟩) (nxt.length + 1) cap) (nxt.length + 1) (nxt.map sV ++ [sV x])) (hg : (w.alloc O).grownBy w1 nv.ownBlock) (hat : nv.ownBlock = some g ∨ g = H) (hH : (w.alloc O).heap.size ≤ H) :
    CS w0 w1 wkb rb N Wd R ev lv (.slice (some ⟨g, 0, none⟩) (nxt.length + 1) cap) E lev (nxt ++ [x]) := by
  have h := h.alloc O
  obtain ⟨s1, _, hm1⟩ := h.wk
  obtain ⟨s2, _, hm2⟩ := h.re
  refine ⟨h.below.grown hg h.below.size (fun k hk => (h.nxt.lt k hk).1), h.wk.block (hg.block _ h.wk.lt (fun e => map_row hm1 h.nxt e.symm rfl)), h.wkB, h.re.block (hg.block _ h.re.lt (fun e => map_row hm2 h.nxt e.symm rfl)), h.reB, h.ne,
    kept_ne h.ent hg (fun g hv e => row_row h.ent h.nxt (by decide) hv e), kept_ne h.lev hg (fun g hv e => h.apart g hv e), by simpa using hown, fun g' hv e => ?_⟩
  simp [Value.ownBlock] at e
  subst e
  rcases hat with hat | hat
  · exact h.apart _ hv hat
  · have := (h.lev.lt _ hv).2; omega
/-- 'level = next', a new 'next'. -/
theorem CS.turn (h : CS w0 w wkb rb N Wd R ev lv nv E lev nxt) : CS w0 w wkb rb N Wd R ev nv (.slice none 0 0) E nxt [] :=
  ⟨h.below, h.wk, h.wkB, h.re, h.reB, h.ne, h.ent, h.nxt, World.ownsRow_nil _ _ _ _, fun g _ e => by simp [Value.ownBlock] at e⟩
end
end Go.Proofs.Ybulkcstq
