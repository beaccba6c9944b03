/-
  OUR OWN. 'LawS4722ABlocked': the swarm while its workers are laid.
-/
import Derived.Test.YbulkcstqNod
import Derived.Test.YbulkcstqLs
import Derived.Deep.RegionLaw
namespace Go.Proofs.Ybulkcstq
open Go.RowKit

theorem info55 : (Yba.prog.info? 55).map (fun i => (i.zero, i.size, i.bytes)) = some (some (.agg #[.string ByteArray.empty, .string ByteArray.empty, .bool false, .int .u64 0, .int .i64 0, .pointer none, .int .u64 0, .int .i64 0, .pointer none, .string ByteArray.empty]), 10, 104) := by kernel_rfl

/-- A call of 'zzs4722aid' as one step of a region that draws. -/
theorem step_aid {ops : Array Oper} {o : Oper} {a : Act} {w : World} {K : Act → World → Prop} {Q : Exit → Act → World → Prop} {E : Prop} (hgd : o.guard = none) (x : Operand) (ho : o.op = .call { callee := .value (.func 6), args := #[x], argTypes := #[3] })
    (q : Nat) (hq : q < 9) (hx : a.eval x = .int .i64 (q : Int)) (h : K (a.put o.dst (.string (idS q))) w) : if Region.wanted o (yielded ops a.tmps) = true then Oper.wp Yba.prog o a w K Q else E := by
  have hw : Region.wanted o (yielded ops a.tmps) = true := by simp [Region.wanted, hgd]
  rw [if_pos hw]
  have hr : (execOp a.eval o).run Yba.prog w = .ok (.enter 6 #[.int .i64 (q : Int)]) w := by
    have hf : a.eval (.func 6) = .func (.func 6) #[] #[] := rfl
    have hc : ∀ args, (callFunc 6 args).run Yba.prog w = .ok (.enter 6 args) w := fun args => rfl
    unfold execOp
    simp [ho, resolve, invoke, hx, hf, Deferred.ofValue, hc]
  unfold Oper.wp
  rw [hr, Oper.upon_enter]
  exact (aid q hq w).mono (by rintro e w' ⟨rfl, rfl⟩; exact h)

/-- The workers that came in (nil or not): a byte and a bool each. -/
structure WArg (w : World) (a : Option Addr) (n b off : Nat) (xs : Nat → Nat) (ps : Nat → Bool) : Prop where
  ad : 0 < n → a = some ⟨b, off, none⟩
  c0 : ∀ j, j < n → w.cell? ⟨b, off + j * 2, none⟩ = some (.int .u8 (xs j : Nat))
  c1 : ∀ j, j < n → w.cell? ⟨b, off + j * 2 + 1, none⟩ = some (.bool (ps j))
  le : ∀ j, j < n → xs j ≤ 255
theorem WArg.below {w w1 : World} {a : Option Addr} {n b off : Nat} {xs : Nat → Nat} {ps : Nat → Bool} (h : WArg w a n b off xs ps) (hb : Below w.heap.size w w1) : WArg w1 a n b off xs ps :=
  ⟨h.ad, fun j hj => (hb.cell (p := ⟨b, off + j * 2, none⟩) (lt_of_cell (h.c0 j hj))).trans (h.c0 j hj), fun j hj => (hb.cell (p := ⟨b, off + j * 2 + 1, none⟩) (lt_of_cell (h.c1 j hj))).trans (h.c1 j hj), h.le⟩
def wrkL (n : Nat) (xs : Nat → Nat) (ps : Nat → Bool) : List (Nat × Bool) := (List.range n).map fun j => (xs j % 9, ps j)
theorem wrkL_succ (n : Nat) (xs : Nat → Nat) (ps : Nat → Bool) : wrkL (n + 1) xs ps = wrkL n xs ps ++ [(xs n % 9, ps n)] := by simp [wrkL, List.range_succ]
theorem wrkL_len (n : Nat) (xs : Nat → Nat) (ps : Nat → Bool) : (wrkL n xs ps).length = n := by simp [wrkL]
theorem wrkL_lt (n : Nat) (xs : Nat → Nat) (ps : Nat → Bool) : ∀ q ∈ wrkL n xs ps, q.1 < 9 := by
  intro q hq
  obtain ⟨j, _, rfl⟩ := List.mem_map.1 hq
  exact Nat.mod_lt _ (by omega)

/-- What is held (block w0.heap.size), the swarm (the next block), its two rows. -/
structure WS (w0 w : World) (sw2 : List Value) (H : Nat → Bool) (wv tv : Value) (WL : List (Nat × Bool)) (TL : List Nat) : Prop where
  below : Below w0.heap.size w0 w
  he : Arr w w0.heap.size 9 (boolF H)
  sw : Blk w (w0.heap.size + 1) 51 (wv :: tv :: sw2)
  wr : w.ownsRow (w0.heap.size + 2) 55 10 wv WL.length (WL.flatMap wC)
  tr : w.ownsRow (w0.heap.size + 2) 55 10 tv TL.length (TL.flatMap tC)
  ap : ∀ g, wv.ownBlock = some g → tv.ownBlock ≠ some g
section
variable {w0 w w1 : World} {sw2 : List Value} {H : Nat → Bool} {wv tv : Value} {WL : List (Nat × Bool)} {TL : List Nat}
theorem WS.later (h : WS w0 w sw2 H wv tv WL TL) (hb : Below w.heap.size w w1) : WS w0 w1 sw2 H wv tv WL TL :=
  ⟨h.below.trans (hb.mono h.below.size), h.he.below hb h.he.lt, h.sw.below hb h.sw.lt, h.wr.kept (below_grown hb) (own_or _), h.tr.kept (below_grown hb) (own_or _), h.ap⟩
theorem WS.alloc (h : WS w0 w sw2 H wv tv WL TL) (o : Obj) : WS w0 (w.alloc o) sw2 H wv tv WL TL := h.later ((Below.refl _ _).alloc (Nat.le_refl _) o)
theorem WS.drew (h : WS w0 w sw2 H wv tv WL TL) : WS w0 w.drew sw2 H wv tv WL TL := h.later (Below.drew (Below.refl _ _))
theorem WS.start (w0 : World) (A : Array Value) (sw2 : List Value) (hA : A.toList = .slice none 0 0 :: .slice none 0 0 :: sw2) : WS w0 ((w0.alloc (.cells zb9 41)).alloc (.cells A 51)) sw2 (fun _ => false) (.slice none 0 0) (.slice none 0 0) [] [] := by
  have h := Blk.made (w0.alloc (.cells zb9 41)) A 51
  rw [World.size_alloc, hA] at h
  exact ⟨((Below.refl _ _).alloc (Nat.le_refl _) _).alloc (by simp) _, (Arr.zb9 w0 41).alloc _, h, World.ownsRow_nil _ _ _ _, World.ownsRow_nil _ _ _ _, fun g _ e => by simp [Value.ownBlock] at e⟩
/-- 'held[q] = true'. -/
theorem WS.hold (h : WS w0 w sw2 H wv tv WL TL) (q : Nat) : WS w0 (w.setCell ⟨w0.heap.size, q, none⟩ (.bool true)) sw2 (fun x => x == q || H x) wv tv WL TL := by
  refine ⟨h.below.setCell (Nat.le_refl _) _, ?_, h.sw.other (a := ⟨w0.heap.size, q, none⟩) (by show w0.heap.size + 1 ≠ w0.heap.size; omega) _, row_set h.wr (by show w0.heap.size < _; omega) _, row_set h.tr (by show w0.heap.size < _; omega) _, h.ap⟩
  have h2 := h.he.set q (.bool true)
  rw [boolF_set] at h2
  refine h2.congr fun i _ => ?_
  unfold boolF
  by_cases e : i = q <;> simp [e]
theorem WS.sameH (h : WS w0 w sw2 H wv tv WL TL) {H' : Nat → Bool} (e : ∀ x, H x = H' x) : WS w0 w sw2 H' wv tv WL TL := ⟨h.below, h.he.congr fun i _ => by unfold boolF; rw [e], h.sw, h.wr, h.tr, h.ap⟩
abbrev wA (q : Nat) (p : Bool) : Array Value := #[.string ⟨#[119]⟩, sV q, .bool p, .int .u64 0, .int .i64 0, .pointer none, .int .u64 0, .int .i64 0, .pointer none, .string ByteArray.empty]
abbrev tA (q : Nat) : Array Value := #[.string ByteArray.empty, sV q, .bool false, .int .u64 0, .int .i64 0, .pointer none, .int .u64 0, .int .i64 0, .pointer none, .string ByteArray.empty]
theorem WS.preW (h : WS w0 w sw2 H wv tv WL TL) (q : Nat) (p : Bool) {N : Nat} (hN : N = WL.length) :
    Hid ((w.alloc (.cells (wA q p) 55)).drew.ownsRow (w0.heap.size + 2) 55 10 wv N (WL.flatMap wC)) ∧ Hid (∀ j u, (wA q p).toList[j]? = some u → (w.alloc (.cells (wA q p) 55)).drew.cell? ((⟨w.heap.size, 0, none⟩ : Addr).add j) = some u) ∧ Hid (∀ u ∈ (wA q p).toList, u.oneCell' = true) ∧
    Hid (∀ w1 : World, (w.alloc (.cells (wA q p) 55)).drew.grownBy w1 wv.ownBlock → w1.cell? ⟨w0.heap.size + 1, 0, none⟩ = some wv ∧ w1.frozen? ⟨w0.heap.size + 1, 0, none⟩ = false) := by
  subst hN
  have h2 := (h.alloc (.cells (wA q p) 55)).drew
  refine ⟨h2.wr, World.news_of_block (Blk.made w _ 55), ?_, fun w1 hg => ?_⟩
  · intro u hu; simp at hu; rcases hu with rfl | rfl | rfl | rfl | rfl | rfl | rfl | rfl | rfl | rfl <;> rfl
  · have h3 := h2.sw.grown hg (fun e => by have := (h2.wr.lt _ e.symm).1; omega)
    exact ⟨h3.cell rfl, h3.free 0⟩
theorem WS.preT (h : WS w0 w sw2 H wv tv WL TL) (q : Nat) {N : Nat} (hN : N = TL.length) :
    Hid ((w.alloc (.cells (tA q) 55)).drew.ownsRow (w0.heap.size + 2) 55 10 tv N (TL.flatMap tC)) ∧ Hid (∀ j u, (tA q).toList[j]? = some u → (w.alloc (.cells (tA q) 55)).drew.cell? ((⟨w.heap.size, 0, none⟩ : Addr).add j) = some u) ∧ Hid (∀ u ∈ (tA q).toList, u.oneCell' = true) ∧
    Hid (∀ w1 : World, (w.alloc (.cells (tA q) 55)).drew.grownBy w1 tv.ownBlock → w1.cell? ⟨w0.heap.size + 1, 1, none⟩ = some tv ∧ w1.frozen? ⟨w0.heap.size + 1, 1, none⟩ = false) := by
  subst hN
  have h2 := (h.alloc (.cells (tA q) 55)).drew
  refine ⟨h2.tr, World.news_of_block (Blk.made w _ 55), ?_, fun w1 hg => ?_⟩
  · intro u hu; simp at hu; rcases hu with rfl | rfl | rfl | rfl | rfl | rfl | rfl | rfl | rfl | rfl <;> rfl
  · have h3 := h2.sw.grown hg (fun e => by have := (h2.tr.lt _ e.symm).1; omega)
    exact ⟨h3.cell rfl, h3.free 1⟩
/-- 'sw.Workers = append(sw.Workers, ..)'. -/
theorem WS.pushW {g cap Hs q N : Nat} {p : Bool} (h : WS w0 w sw2 H wv tv WL TL) (hN : N = WL.length) (hown : w1.ownsRow (w0.heap.size + 2) 55 10 (.slice (some ⟨g, 0, none⟩) (N + 1) cap) (N + 1) (WL.flatMap wC ++ (wA q p).toList)) (hg : (w.alloc (.cells (wA q p) 55)).drew.grownBy w1 wv.ownBlock) (hat : wv.ownBlock = some g ∨ g = Hs) (hH : (w.alloc (.cells (wA q p) 55)).drew.heap.size ≤ Hs) :
    WS w0 (w1.setCell ⟨w0.heap.size + 1, 0, none⟩ (.slice (some ⟨g, 0, none⟩) (N + 1) cap)) sw2 H (.slice (some ⟨g, 0, none⟩) (N + 1) cap) tv (WL ++ [(q, p)]) TL := by
  subst hN
  have h := (h.alloc (.cells (wA q p) 55)).drew
  have hap : ∀ g', Value.ownBlock (.slice (some ⟨g, 0, none⟩) (WL.length + 1) cap) = some g' → tv.ownBlock ≠ some g' := by
    intro g' e
    simp [Value.ownBlock] at e
    subst e
    rcases hat with hat | hat
    · exact h.ap g hat
    · intro e; have := (h.tr.lt _ e).2; omega
  have hs := (h.sw.grown hg (fun e => by have := (h.wr.lt _ e.symm).1; omega)).set 0 (.slice (some ⟨g, 0, none⟩) (WL.length + 1) cap)
  refine ⟨(h.below.grown hg h.below.size (fun j hj => by have := (h.wr.lt j hj).1; omega)).setCell (Nat.le_succ _) _, (h.he.grown hg (fun e => by have := (h.wr.lt _ e.symm).1; omega)).other (a := ⟨w0.heap.size + 1, 0, none⟩) (by show w0.heap.size ≠ w0.heap.size + 1; omega) _, hs,
    row_set (by rw [List.length_append, List.flatMap_append]; exact hown) (by show w0.heap.size + 1 < _; omega) _, row_set (kept_ne h.tr hg (fun g' hv e => h.ap g' e hv)) (by show w0.heap.size + 1 < _; omega) _, hap⟩
/-- 'sw.Tampered = append(sw.Tampered, ..)'. -/
theorem WS.pushT {g cap Hs q N : Nat} (h : WS w0 w sw2 H wv tv WL TL) (hN : N = TL.length) (hown : w1.ownsRow (w0.heap.size + 2) 55 10 (.slice (some ⟨g, 0, none⟩) (N + 1) cap) (N + 1) (TL.flatMap tC ++ (tA q).toList)) (hg : (w.alloc (.cells (tA q) 55)).drew.grownBy w1 tv.ownBlock) (hat : tv.ownBlock = some g ∨ g = Hs) (hH : (w.alloc (.cells (tA q) 55)).drew.heap.size ≤ Hs) :
    WS w0 (w1.setCell ⟨w0.heap.size + 1, 1, none⟩ (.slice (some ⟨g, 0, none⟩) (N + 1) cap)) sw2 H wv (.slice (some ⟨g, 0, none⟩) (N + 1) cap) WL (TL ++ [q]) := by
  subst hN
  have h := (h.alloc (.cells (tA q) 55)).drew
  have hap : ∀ g', wv.ownBlock = some g' → Value.ownBlock (.slice (some ⟨g, 0, none⟩) (TL.length + 1) cap) ≠ some g' := by
    intro g' hw e
    simp [Value.ownBlock] at e
    subst e
    rcases hat with hat | hat
    · exact h.ap g hw hat
    · have := (h.wr.lt _ hw).2; omega
  have hs := (h.sw.grown hg (fun e => by have := (h.tr.lt _ e.symm).1; omega)).set 1 (.slice (some ⟨g, 0, none⟩) (TL.length + 1) cap)
  refine ⟨(h.below.grown hg h.below.size (fun j hj => by have := (h.tr.lt j hj).1; omega)).setCell (Nat.le_succ _) _, (h.he.grown hg (fun e => by have := (h.tr.lt _ e.symm).1; omega)).other (a := ⟨w0.heap.size + 1, 1, none⟩) (by show w0.heap.size ≠ w0.heap.size + 1; omega) _, hs,
    row_set (kept_ne h.wr hg (fun g' hv e => h.ap g' hv e)) (by show w0.heap.size + 1 < _; omega) _, row_set (by rw [List.length_append, List.flatMap_append]; exact hown) (by show w0.heap.size + 1 < _; omega) _, hap⟩
theorem WS.swOk {nw nt wc tc sb : Nat} {wa ta : Option Addr} (h : WS w0 w sw2 H (.slice wa nw wc) (.slice ta nt tc) WL TL) (hw : nw = WL.length) (ht : nt = TL.length) (hs : sw2[1]? = some (.map (some sb))) (h9 : ∀ q ∈ WL, q.1 < 9) (t9 : ∀ k ∈ TL, k < 9) (hn : nw ≤ 1024) (hm : nt ≤ 1024) : SwOk w (w0.heap.size + 1) sb nw nt wc tc wa ta WL TL := by
  have hr := h.wr
  have htt := h.tr
  rw [← hw] at hr
  rw [← ht] at htt
  have q1 : w.ownsRow 0 55 10 (.slice wa nw wc) nw (WL.flatMap wC) := by
    refine ⟨hr.1, ?_⟩
    rcases hr.2 with h1 | ⟨g, cap, cur, a, _, r⟩
    · exact .inl h1
    · exact .inr ⟨g, cap, cur, a, Nat.zero_le _, r⟩
  have q2 : w.ownsRow 0 55 10 (.slice ta nt tc) nt (TL.flatMap tC) := by
    refine ⟨htt.1, ?_⟩
    rcases htt.2 with h1 | ⟨g, cap, cur, a, _, r⟩
    · exact .inl h1
    · exact .inr ⟨g, cap, cur, a, Nat.zero_le _, r⟩
  exact ⟨h.sw.cell rfl, h.sw.cell rfl, h.sw.cell hs, q1, q2, hw, ht, h9, t9, hn, hm⟩
end
end Go.Proofs.Ybulkcstq
