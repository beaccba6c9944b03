/-
  OUR OWN. What each statement of '(*Numbering).number' does to the numbering. No walk.
-/
import Derived.Test.YbulkcsymCheck
namespace Go.Proofs.Ybulkcsym.Numb
open Go.RowKit Go.Maps Go.Proofs.Ybulkcsym

/-- The numbering, and beside it the law's own list 'dd' (which reads as ld), and that nothing of w0 has turned. -/
structure St (w0 w : World) (N base : Nat) (d dl : List Int) (sv mv vv : Value) (n : Nat) (dd : Value) (ld : List Int) : Prop where
  num : Num w N base d dl sv mv vv n
  dat : w.ownsRow base 2 1 dd ld.length (ld.map (Value.int .i64))
  apart : ∀ g, dd.ownBlock = some g → vv.ownBlock ≠ some g
  below : Below w0.heap.size w0 w
  old : w0.heap.size ≤ N
  new : N < base
  room : base ≤ w.heap.size

section
variable {w0 w : World} {N base : Nat} {d dl : List Int} {sv mv vv : Value} {n : Nat} {dd : Value} {ld : List Int}

theorem map_ne {P : Program} {k : TypeId} {κ : Type} {mk : κ → Lit} {B sz b : Nat} {f : κ → Option Value} {e : TypeId} {cur : Array Value} {fr : Nat × Nat} (h : HasMap w P k mk B sz f) (h' : w.heap[b]? = some (.cells cur e fr)) : B ≠ b := by
  intro hb
  subst hb
  obtain ⟨D, ⟨es, clock, hb, _⟩, _⟩ := h
  rw [hb] at h'
  simp at h'

/-- The numbering stays while one other block may turn. -/
theorem Num.kept {w' : World} {row : Option Nat} (h : Num w N base d dl sv mv vv n) (hg : w.grownBy w' row) (hN : some N ≠ row) (h1 : ∀ g, sv.ownBlock = some g → some g ≠ row) (h2 : ∀ B, mv = .map (some B) → some B ≠ row) (h3 : vv.ownBlock = none ∨ vv.ownBlock ≠ row) : Num w' N base d dl sv mv vv n := by
  refine ⟨h.self.grown hg hN, ?_, h.top, h.all, ?_, h.vals.kept hg h3⟩
  · rcases h.sml with a | ⟨g, rfl, hb, hB⟩
    · exact .inl a
    · exact .inr ⟨g, rfl, hb, hB.grown hg (h1 g rfl)⟩
  · rcases h.lrg with a | ⟨B, sz, rfl, hb, hs, hM⟩
    · exact .inl a
    · exact .inr ⟨B, sz, rfl, hb, hs, hM.grown hg (h2 B rfl)⟩

theorem some_ne_none (b : Nat) : some b ≠ none := by simp
theorem grown_none {w' : World} (h : w.grownBy w' none) (row : Option Nat) : w.grownBy w' row := ⟨h.os, h.tape, h.output, h.size, fun k hk _ => h.block k hk (by simp)⟩

theorem St.grown_new {w' : World} (h : St w0 w N base d dl sv mv vv n dd ld) (hg : w.grownBy w' none) : St w0 w' N base d dl sv mv vv n dd ld :=
  ⟨h.num.kept hg (by simp) (fun _ _ => by simp) (fun _ _ => by simp) (own_or' _), h.dat.kept hg (own_or' _), h.apart, h.below.grown hg h.below.size (fun k hk => by cases hk), h.old, h.new, Nat.le_trans h.room hg.size⟩
where own_or' (v : Value) : v.ownBlock = none ∨ v.ownBlock ≠ none := by cases v.ownBlock <;> simp

theorem St.alloc (h : St w0 w N base d dl sv mv vv n dd ld) (o : Obj) : St w0 (w.alloc o) N base d dl sv mv vv n dd ld := h.grown_new (World.grownBy_alloc w o none)

theorem blk_cells {b : Nat} {e : TypeId} {L : List Value} (h : Blk w b e L) : w.heap[b]? = some (.cells L.toArray e (0, 0)) := h

/-- What the blocks are: the numbering's own, its small list's, its map's, its values', the law's list's. -/
theorem St.sv_ne (h : St w0 w N base d dl sv mv vv n dd ld) : ∀ g, sv.ownBlock = some g → vv.ownBlock ≠ some g ∧ dd.ownBlock ≠ some g ∧ g ≠ N ∧ base ≤ g := by
  intro g hg
  rcases h.num.sml with ⟨rfl, _⟩ | ⟨g', rfl, hb, hB⟩
  · simp [Value.ownBlock] at hg
  · simp [Value.ownBlock] at hg
    subst hg
    exact ⟨ownsRow_ne_blk h.num.vals hB (by decide), ownsRow_ne_blk h.dat hB (by decide), by have := h.new; omega, hb⟩
theorem St.mv_ne (h : St w0 w N base d dl sv mv vv n dd ld) : ∀ B, mv = .map (some B) → vv.ownBlock ≠ some B ∧ dd.ownBlock ≠ some B ∧ sv.ownBlock ≠ some B ∧ B ≠ N ∧ base ≤ B := by
  intro B hm
  rcases h.num.lrg with ⟨rfl, _⟩ | ⟨B', sz, rfl, hb, _, hM⟩
  · simp at hm
  · simp at hm
    subst hm
    refine ⟨fun e => ?_, fun e => ?_, fun e => ?_, by have := h.new; omega, hb⟩
    · obtain ⟨cur, hc⟩ := ownsRow_elem h.num.vals e
      exact map_ne hM hc rfl
    · obtain ⟨cur, hc⟩ := ownsRow_elem h.dat e
      exact map_ne hM hc rfl
    · rcases h.num.sml with ⟨rfl, _⟩ | ⟨g', rfl, _, hB⟩
      · simp [Value.ownBlock] at e
      · simp [Value.ownBlock] at e
        subst e
        exact map_ne hM (blk_cells hB) rfl

/-- 'm.values = append(m.values, x)'. -/
theorem St.append {w1 : World} {O : Obj} {x : Int} {g cap H : Nat} (h : St w0 w N base d d sv mv vv n dd ld) (hown : w1.ownsRow base 2 1 (.slice (some ⟨g, 0, none⟩) (d.length + 1) cap) (d.length + 1) (d.map (Value.int .i64) ++ [.int .i64 x]))
    (hg : (w.alloc O).grownBy w1 vv.ownBlock) (hH : w.heap.size ≤ H) (hat : vv.ownBlock = some g ∨ g = H) :
    St w0 (w1.setCell ⟨N, 2, none⟩ (.slice (some ⟨g, 0, none⟩) (d.length + 1) cap)) N base d (d ++ [x]) sv mv (.slice (some ⟨g, 0, none⟩) (d.length + 1) cap) n dd ld := by
  have ha := h.alloc O
  have hn := h.new
  have hr := h.room
  have hbN : some N ≠ vv.ownBlock := fun e => by have := (h.num.vals.lt N e.symm).1; omega
  have hself := (ha.num.self.grown hg hbN).set 2 (.slice (some ⟨g, 0, none⟩) (d.length + 1) cap)
  have hgN : g ≠ N := by have := (hown.lt g rfl).1; omega
  refine ⟨⟨hself, ?_, h.num.top, h.num.all, ?_, ?_⟩, ?_, ?_, ?_, h.old, h.new, ?_⟩
  · rcases ha.num.sml with a | ⟨g', rfl, hb, hB⟩
    · exact .inl a
    · exact .inr ⟨g', rfl, hb, (hB.grown hg (fun e => (ha.sv_ne g' rfl).1 e.symm)).other (by show g' ≠ N; omega) _⟩
  · rcases ha.num.lrg with a | ⟨B, sz, rfl, hb, hs, hM⟩
    · exact .inl a
    · exact .inr ⟨B, sz, rfl, hb, hs, (hM.grown hg (fun e => (ha.mv_ne B rfl).1 e.symm)).setCell (by show B ≠ N; omega) _⟩
  · simpa using ownsRow_setCell_below hown (by show N < base; exact hn) _
  · refine ownsRow_setCell_below (ha.dat.kept hg ?_) (by show N < base; exact hn) _
    cases hd : dd.ownBlock with
    | none => exact .inl rfl
    | some b => exact .inr (fun e => h.apart b hd e.symm)
  · intro b hb hv
    simp [Value.ownBlock] at hv
    subst hv
    rcases hat with e | e
    · exact h.apart g hb e
    · have := (h.dat.lt g hb).2; omega
  · refine Below.setCell ?_ (by show w0.heap.size ≤ N; exact h.old) _
    exact ha.below.grown hg ha.below.size (fun b hb => by have := (h.num.vals.lt b hb).1; have := h.old; omega)
  · have := hg.size
    simp [World.setCell] at this ⊢
    omega

theorem largeAt_snoc_large {x : Int} (hx : ¬ (0 ≤ x ∧ x < 65536)) (hi : idx d x = none) : ∀ l, (if l = x then some (Value.int .i64 (d.length : Nat)) else largeAt d l) = largeAt (d ++ [x]) l := by
  intro l
  unfold largeAt
  rw [idx_snoc]
  by_cases e : l = x
  · subst e
    simp [hx, hi]
  · rw [if_neg e]
    split
    · rfl
    · cases idx d l with
      | none => simp [show ¬ x = l from fun h => e h.symm]
      | some i => simp
theorem smallAt_snoc {x : Int} (v : Nat) (hv : x ≠ v) : smallAt (d ++ [x]) v = smallAt d v := by
  unfold smallAt
  rw [idx_snoc]
  cases idx d v with
  | none => simp [hv]
  | some i => rfl
theorem smallAt_self {v : Nat} (hi : idx d (v : Int) = none) : smallAt (d ++ [(v : Int)]) v = d.length + 1 := by
  unfold smallAt
  rw [idx_snoc, hi]
  simp
theorem largeAt_snoc_small {v : Nat} (hv : v < 65536) : ∀ l, largeAt (d ++ [(v : Int)]) l = largeAt d l := by
  intro l
  unfold largeAt
  split
  · rfl
  · rw [idx_snoc]
    cases idx d l with
    | none =>
      have : ¬ (v : Int) = l := by omega
      simp [this]
    | some i => rfl
theorem all_snoc {x : Int} (h : ∀ v, v < 65536 → n ≤ v → idx d (v : Int) = none) (hx : ∀ v : Nat, v < 65536 → n ≤ v → x ≠ (v : Int)) : ∀ v, v < 65536 → n ≤ v → idx (d ++ [x]) (v : Int) = none := by
  intro v h1 h2
  rw [idx_snoc, h v h1 h2]
  simp [hx v h1 h2]

/-- 'm.large = make(map[int64]int)'. -/
theorem St.mapNew (h : St w0 w N base d dl sv (.map none) vv n dd ld) :
    St w0 ((w.alloc (.map #[] 0)).setCell ⟨N, 1, none⟩ (.map (some w.heap.size))) N base d dl sv (.map (some w.heap.size)) vv n dd ld := by
  have ha := h.alloc (.map #[] 0)
  have hn := h.new
  have hlt := h.num.self.lt
  refine ⟨⟨ha.num.self.set 1 _, ?_, h.num.top, h.num.all, .inr ⟨w.heap.size, 0, rfl, h.room, Nat.zero_le _, ?_⟩, ?_⟩, ?_, h.apart, ha.below.setCell (by exact h.old) _, h.old, h.new, ?_⟩
  · rcases ha.num.sml with a | ⟨g', rfl, hb, hB⟩
    · exact .inl a
    · exact .inr ⟨g', rfl, hb, hB.other (by show g' ≠ N; omega) _⟩
  · refine ((HasMap.made w Yba.prog 2 (Lit.int .i64)).setCell (by show w.heap.size ≠ N; omega) _).congr fun l => ?_
    rcases h.num.lrg with ⟨_, hno⟩ | ⟨B, sz, e, _⟩
    · exact (hno l).symm
    · simp at e
  · exact ownsRow_setCell_below ha.num.vals (by exact hn) _
  · exact ownsRow_setCell_below ha.dat (by exact hn) _
  · have := ha.room
    simpa [World.setCell] using this

/-- 'm.large[x] = n'. -/
theorem St.mapPut {w1 : World} {B sz : Nat} {x : Int} (h : St w0 w N base d (d ++ [x]) sv (.map (some B)) vv n dd ld) (hx : ¬ (0 ≤ x ∧ x < 65536)) (hi : idx d x = none) (hsz : sz ≤ d.length)
    (hM : HasMap w1 Yba.prog 2 (Lit.int .i64) B (if (largeAt d x).isSome then sz else sz + 1) (fun l => if l = x then some (Value.int .i64 (d.length : Nat)) else largeAt d l)) (ht : w.mapTurned w1 B) :
    St w0 w1 N base (d ++ [x]) (d ++ [x]) sv (.map (some B)) vv n dd ld := by
  have hg := ht.grown
  obtain ⟨b1, b2, b3, b4, b5⟩ := h.mv_ne B rfl
  have hxs : ∀ v : Nat, v < 65536 → x ≠ (v : Int) := fun v hv e => hx (by omega)
  refine ⟨⟨h.num.self.grown hg (fun e => b4 (by simpa using e.symm)), ?_, h.num.top, all_snoc h.num.all (fun v h1 _ => hxs v h1), .inr ⟨B, _, rfl, b5, ?_, hM.congr (largeAt_snoc_large hx hi)⟩, h.num.vals.kept hg (.inr b1)⟩, h.dat.kept hg (.inr b2), h.apart, h.below.grown hg h.below.size (fun k hk => ?_), h.old, h.new, Nat.le_trans h.room hg.size⟩
  · rcases h.num.sml with a | ⟨g', rfl, hb, hB⟩
    · exact .inl a
    · refine .inr ⟨g', rfl, hb, ?_⟩
      have e : ((List.range n).map fun v => Value.int .i64 (smallAt (d ++ [x]) v)) = (List.range n).map fun v => Value.int .i64 (smallAt d v) := by
        refine List.map_congr_left fun v hv => ?_
        have hvn := List.mem_range.1 hv
        rw [smallAt_snoc v (hxs v (by have := h.num.top; omega))]
      rw [e]
      exact hB.grown hg (fun e => b3 (by simpa [Value.ownBlock] using e))
  · split <;> simp <;> omega
  · simp at hk
    subst hk
    have := h.old; have := h.new; omega

/-- 'm.small[v] = n + 1'. -/
theorem St.smallSet {g v : Nat} (h : St w0 w N base d (d ++ [(v : Int)]) (.slice (some ⟨g, 0, none⟩) n n) mv vv n dd ld) (hv : v < n) (hi : idx d (v : Int) = none) :
    St w0 (w.setCell ⟨g, v, none⟩ (.int .i64 ((d.length : Int) + 1))) N base (d ++ [(v : Int)]) (d ++ [(v : Int)]) (.slice (some ⟨g, 0, none⟩) n n) mv vv n dd ld := by
  obtain ⟨b1, b2, b3, b4⟩ := h.sv_ne g rfl
  have htop := h.num.top
  refine ⟨⟨h.num.self.other (by show N ≠ g; omega) _, ?_, htop, all_snoc h.num.all (fun u h1 h2 => by omega), ?_, ownsRow_setCell_other h.num.vals b1 _⟩, ownsRow_setCell_other h.dat b2 _, h.apart, h.below.setCell (by show w0.heap.size ≤ g; have := h.old; have := h.new; omega) _, h.old, h.new, ?_⟩
  · rcases h.num.sml with ⟨a, _⟩ | ⟨g', e, hb, hB⟩
    · simp at a
    · simp at e
      subst e
      refine .inr ⟨g, rfl, hb, ?_⟩
      have e : ((List.range n).map fun u => Value.int .i64 (smallAt (d ++ [(v : Int)]) u)) = ((List.range n).map fun u => Value.int .i64 (smallAt d u)).set v (.int .i64 ((d.length : Int) + 1)) := by
        apply List.ext_getElem?
        intro j
        by_cases ej : j = v
        · subst ej
          rw [List.getElem?_set_self (by simpa using hv)]
          simp [hv, smallAt_self hi]
        · rw [List.getElem?_set_ne (fun e => ej e.symm)]
          by_cases hj : j < n
          · simp [hj, smallAt_snoc j (show (v : Int) ≠ (j : Int) by omega)]
          · simp [hj]
      rw [e]
      exact hB.set v _
  · rcases h.num.lrg with ⟨a, hno⟩ | ⟨B, sz, rfl, hb, hs, hM⟩
    · exact .inl ⟨a, fun x => by rw [largeAt_snoc_small (by omega)]; exact hno x⟩
    · have hne := (h.mv_ne B rfl).2.2.1
      refine .inr ⟨B, sz, rfl, hb, by simp; omega, (hM.setCell (by show B ≠ g; intro e; exact hne (by simp [Value.ownBlock, e])) _).congr fun l => (largeAt_snoc_small (by omega) l).symm⟩
  · have := h.room
    simpa [World.setCell] using this

/-- 'grown := make(..); copy(grown, m.small); m.small = grown'. -/
theorem St.smallGrow {w2 : World} {L : Nat} {Z : List Value} (h : St w0 w N base d dl sv mv vv n dd ld) (hL : n ≤ L) (hL2 : L ≤ 65536) (hb : Below w.heap.size w w2) 
    (hZ : Z = (List.range L).map fun v => Value.int .i64 (smallAt d v)) (hB : Blk w2 w.heap.size 3 Z) :
    St w0 (w2.setCell ⟨N, 0, none⟩ (.slice (some ⟨w.heap.size, 0, none⟩) L L)) N base d dl (.slice (some ⟨w.heap.size, 0, none⟩) L L) mv vv L dd ld := by
  have hg : w.grownBy w2 none := ⟨hb.os, hb.tape, hb.output, hb.size, fun k hk _ => hb.block k hk⟩
  have h2 := h.grown_new hg
  have hn := h.new
  have hNl := h.num.self.lt
  refine ⟨⟨h2.num.self.set 0 _, .inr ⟨w.heap.size, rfl, h.room, ?_⟩, hL2, fun v h1 h3 => h.num.all v h1 (by omega), ?_, ownsRow_setCell_below h2.num.vals (by exact hn) _⟩, ownsRow_setCell_below h2.dat (by exact hn) _, h.apart, h2.below.setCell (by exact h.old) _, h.old, h.new, ?_⟩
  · rw [← hZ]
    exact hB.other (by show w.heap.size ≠ N; omega) _
  · rcases h2.num.lrg with a | ⟨B, sz, rfl, hb', hs, hM⟩
    · exact .inl a
    · exact .inr ⟨B, sz, rfl, hb', hs, hM.setCell (by show B ≠ N; omega) _⟩
  · have := h2.room
    simpa [World.setCell] using this
end
end Go.Proofs.Ybulkcsym.Numb
