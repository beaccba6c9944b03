/-
  OUR OWN. 'LawS4731CExact': the writers of each key.
-/
import Derived.Test.YbulkcsymWord
namespace Go.Proofs.Ybulkcsym
open Go.RowKit

def bt (x : Int) (k : Nat) : Bool := bits BinOp.and .u8 (x / 2 ^ k) 1 == 1
def wl (wd : List Int) (lw key t : Nat) : List Nat := (List.range t).filter fun i => decide (i < lw) && bt (wd.getD i 0) key
def XS (wd : List Int) (lw n k t : Nat) : Nat → List Value := fun j => (wl wd lw j (pg n k t j)).map fun (i : Nat) => .int .i64 (i : Int)

theorem wl_le (wd : List Int) (lw key t : Nat) : (wl wd lw key t).length ≤ t := Nat.le_trans (List.length_filter_le _ _) (by simp)
theorem XS_next (wd : List Int) (lw n k : Nat) : XS wd lw n (k + 1) 0 = XS wd lw n k n := by
  funext j
  simp only [XS, pg_next]
theorem pg_self (n k t : Nat) : pg n k t k = t := by unfold pg; rw [if_neg (by omega), if_pos rfl]
theorem pg_else {n k t t' j : Nat} (h : j ≠ k) : pg n k t j = pg n k t' j := by unfold pg; rw [if_neg h, if_neg h]
theorem XS_in {wd : List Int} {lw n k t : Nat} (h : (decide (t < lw) && bt (wd.getD t 0) k) = true) : XS wd lw n k (t + 1) = fun j => if j = k then XS wd lw n k t k ++ [.int .i64 (t : Int)] else XS wd lw n k t j := by
  funext j
  by_cases e : j = k
  · subst e
    rw [if_pos rfl]
    simp only [XS, pg_self, wl, List.range_succ, List.filter_append, List.map_append]
    rw [List.filter_cons_of_pos (p := fun i => decide (i < lw) && bt (wd.getD i 0) j) (a := t) h]
    rfl
  · rw [if_neg e]
    simp only [XS]
    rw [pg_else e]
theorem XS_out {wd : List Int} {lw n k t : Nat} (h : (decide (t < lw) && bt (wd.getD t 0) k) = false) : XS wd lw n k (t + 1) = XS wd lw n k t := by
  funext j
  by_cases e : j = k
  · subst e
    simp only [XS, pg_self, wl, List.range_succ, List.filter_append, List.map_append]
    rw [List.filter_cons_of_neg (by rw [h]; decide)]
    simp
  · simp only [XS]
    rw [pg_else e]

section
variable {w wr w1 : World} {tb sb n S pb W kb : Nat} {tops : Int} {V : Nat → Value} {xs : Nat → List Value} {Ls Li Lt Lm Lw : List Value}
theorem P2.push (h : P2 w wr tb sb n S pb W tops Ls Li Lt Lm Lw) (hf : Fam wr (kb + 1) kb 4 V xs) (hk : pb + 3 ≤ kb) {s : Nat} (hs : s < 4) (hg : wr.grownBy w1 (V s).ownBlock) (v : Value) : P2 w (w1.setCell ⟨kb, s, none⟩ v) tb sb n S pb W tops Ls Li Lt Lm Lw := by
  have hp := h.pos
  have hz := h.pbz
  refine ⟨h.pos, hf.keeps hs h.com (by omega) (by omega) hg v, hf.keeps hs h.hso (by omega) (by omega) hg v, hf.keeps hs h.hio (by omega) (by omega) hg v, hf.keeps hs h.htx (by omega) (by omega) hg v, hf.keeps hs h.hp (by omega) (by omega) hg v, hf.keeps hs h.hw (by omega) (by omega) hg v, hf.keeps hs h.hm (by omega) (by omega) hg v, hf.keepsBelow hs (by omega) h.below h.below.size hg v, h.pbz, ?_⟩
  have := hg.size
  have := h.size
  simp [World.setCell]
  omega
theorem P2.alloc (h : P2 w wr tb sb n S pb W tops Ls Li Lt Lm Lw) (O : Obj) : P2 w (wr.alloc O) tb sb n S pb W tops Ls Li Lt Lm Lw := h.later ((Below.refl _ _).alloc (Nat.le_refl _) O)

structure P3 (w wr : World) (tb sb n S pb W : Nat) (tops : Int) (Ls Li Lt Lm Lw : List Value) (kb : Nat) (V : Nat → Value) (xs : Nat → List Value) : Prop where
  p2 : P2 w wr tb sb n S pb W tops Ls Li Lt Lm Lw
  fam : Fam wr (kb + 1) kb 4 V xs
  kpb : pb + 3 ≤ kb
theorem P2.p3 (h : P2 w wr tb sb n S pb W tops Ls Li Lt Lm Lw) (wd : List Int) (lw : Nat) : P3 w (wr.alloc (.cells #[.slice none 0 0, .slice none 0 0, .slice none 0 0, .slice none 0 0] 22)) tb sb n S pb W tops Ls Li Lt Lm Lw wr.heap.size (fun _ => .slice none 0 0) (XS wd lw n 0 0) := by
  refine ⟨h.alloc _, ⟨Blk.made wr _ 22, by omega, fun s _ => ?_, fun _ _ _ _ _ g hg => by simp [Value.ownBlock] at hg⟩, h.size⟩
  have e : XS wd lw n 0 0 s = [] := by
    have : pg n 0 0 s = 0 := by unfold pg; rw [if_neg (by omega)]; split <;> rfl
    simp [XS, this, wl]
  rw [e]
  exact World.ownsRow_nil _ _ _ _
theorem pre46 {κ c t : Nat} (h : P3 w wr tb sb n S pb W tops Ls Li Lt Lm Lw kb V xs) (hs : κ < 4) (hc : c = (xs κ).length) :
    Hid ((wr.alloc (.cells #[.int .i64 (t : Int)] 3)).ownsRow (kb + 1) 3 1 (V κ) c (xs κ)) ∧
    Hid (∀ j u, [Value.int .i64 (t : Int)][j]? = some u → (wr.alloc (.cells #[.int .i64 (t : Int)] 3)).cell? ((⟨wr.heap.size, 0, none⟩ : Addr).add j) = some u) ∧
    Hid (∀ u ∈ [Value.int .i64 (t : Int)], u.oneCell' = true) ∧
    Hid (∀ w1 : World, (wr.alloc (.cells #[.int .i64 (t : Int)] 3)).grownBy w1 (V κ).ownBlock → w1.cell? ⟨kb, κ, none⟩ = some (V κ) ∧ w1.frozen? ⟨kb, κ, none⟩ = false) := by
  subst hc
  have hf := h.fam.alloc (.cells #[.int .i64 (t : Int)] 3)
  refine ⟨hf.rows κ hs, World.news_of_block (Blk.made wr _ 3), ?_, ?_⟩
  · intro u hu; simp at hu; subst hu; rfl
  · intro w1 hg
    have hr := hf.rows κ hs
    have h1 := hf.hdr.grown hg (fun e => ownsRow_ne_blk hr hf.hdr (by decide) e.symm)
    exact ⟨h1.cell (by rcases (show κ = 0 ∨ κ = 1 ∨ κ = 2 ∨ κ = 3 by omega) with e | e | e | e <;> subst e <;> rfl), h1.free _⟩
theorem after46 {κ c t g cap H : Nat} {O : Obj} (h : P3 w wr tb sb n S pb W tops Ls Li Lt Lm Lw kb V xs) (hs : κ < 4) (hc : c = (xs κ).length)
    (hown : w1.ownsRow (kb + 1) 3 1 (.slice (some ⟨g, 0, none⟩) (c + 1) cap) (c + 1) (xs κ ++ [.int .i64 (t : Int)])) (hg : (wr.alloc O).grownBy w1 (V κ).ownBlock) (hat : (V κ).ownBlock = some g ∨ g = H) (hH : (wr.alloc O).heap.size ≤ H) :
    ∃ V', P3 w (w1.setCell ⟨kb, κ, none⟩ (.slice (some ⟨g, 0, none⟩) (c + 1) cap)) tb sb n S pb W tops Ls Li Lt Lm Lw kb V' (fun j => if j = κ then xs κ ++ [.int .i64 (t : Int)] else xs j) := by
  subst hc
  exact ⟨_, (h.p2.alloc O).push (h.fam.alloc O) h.kpb hs hg _, (h.fam.alloc O).push hs hown hg hat hH, h.kpb⟩

theorem P3.later (h : P3 w wr tb sb n S pb W tops Ls Li Lt Lm Lw kb V xs) (hb : Below wr.heap.size wr w1) : P3 w w1 tb sb n S pb W tops Ls Li Lt Lm Lw kb V xs := ⟨h.p2.later hb, h.fam.below hb, h.kpb⟩

/-- The writers as 'unorderedPairs' reads them. -/
def avOf (V : Nat → Value) (k : Nat) : Option Addr := match V k with | .slice a _ _ => a | _ => none
def cpOf (V : Nat → Value) (k : Nat) : Nat := match V k with | .slice _ _ c => c | _ => 0
def gbOf (V : Nat → Value) (k : Nat) : Nat := ((V k).ownBlock).getD 0
theorem P3.wri {wd : List Int} {lw B : Nat} (h : P3 w wr tb sb n S pb W tops Ls Li Lt Lm Lw kb V (XS wd lw n 4 0)) (hn : n ≤ 300) (hB : B = wr.heap.size) : Wri wr B kb n (fun k => wl wd lw k n) (avOf V) (gbOf V) (cpOf V) := by
  subst hB
  have hx : ∀ k, k < 4 → XS wd lw n 4 0 k = (wl wd lw k n).map fun (i : Nat) => .int .i64 (i : Int) := fun k hk => by
    have : pg n 4 0 k = n := by unfold pg; rw [if_pos hk]
    simp only [XS, this]
  have hr : ∀ k, k < 4 → wr.ownsRow (kb + 1) 3 1 (V k) (wl wd lw k n).length ((wl wd lw k n).map fun (i : Nat) => .int .i64 (i : Int)) := fun k hk => by
    have := h.fam.rows k hk
    rw [hx k hk] at this
    simpa using this
  refine ⟨fun k hk => ?_, fun k hk h0 => ?_, fun k hk => ?_, fun k hk i hi => ?_, fun k hk h0 => ?_, h.fam.hdr.lt, fun k _ => Nat.le_trans (wl_le _ _ _ _) hn, fun k hk i hi => ?_⟩
  · obtain ⟨a, c, hv, _, _⟩ := ownsRow_slice (hr k hk)
    have := h.fam.cell hk
    rw [this]
    simp only [avOf, cpOf, hv]
  · obtain ⟨g, c, hv, _⟩ := (hr k hk).form h0
    simp only [avOf, gbOf, hv, Value.ownBlock, Option.getD]
  · obtain ⟨a, c, hv, hc, _⟩ := ownsRow_slice (hr k hk)
    simp only [cpOf, hv]
    exact hc
  · obtain ⟨g, c, hv, _⟩ := (hr k hk).form (by omega)
    have h2 := hr k hk
    rw [hv] at h2
    simp only [gbOf, hv, Value.ownBlock, Option.getD]
    rw [h2.cellAt i (by simpa using hi), List.getElem?_map, List.getElem?_eq_getElem hi]
    simp [List.getD, List.getElem?_eq_getElem hi]
  · obtain ⟨g, c, hv, _⟩ := (hr k hk).form h0
    simp only [gbOf, hv, Value.ownBlock, Option.getD]
    exact ((hr k hk).lt g (by rw [hv]; rfl)).2
  · have hm : (wl wd lw k n).getD i 0 ∈ wl wd lw k n := by
      rw [List.getD, List.getElem?_eq_getElem hi]
      exact List.getElem_mem hi
    have := (List.mem_filter.1 hm).1
    simpa using this
end

/-- One pair of those that were listed, as it lies in memory. -/
theorem got_at {w5 wr : World} {base M Tc m : Nat} {Ta : Option Addr} {l : List Pr} {p : Pr} (hrow : w5.ownsRow base 96 7 (.slice Ta M Tc) M (l.flatMap pairC)) (hM : M = l.length) (hp : l[m]? = some p) (hb : Below w5.heap.size w5 wr) :
    ∃ G, Ta = some ⟨G, 0, none⟩ ∧ ∀ j, j < 7 → wr.cell? ⟨G, m * 7 + j, none⟩ = (pairC p)[j]? := by
  have hm : m < l.length := (List.getElem?_eq_some_iff.1 hp).1
  obtain ⟨g, c, hv, _⟩ := hrow.form (by omega)
  have hlt := (hrow.lt g (by rw [hv]; rfl)).2
  rw [hv] at hrow
  simp at hv
  refine ⟨g, hv.1, fun j hj => ?_⟩
  rw [hb.cell (p := ⟨g, m * 7 + j, none⟩) hlt, hrow.cellAt _ (by omega)]
  exact pairs_at l m p hp j hj
theorem pre_get {pr : Nat → Nat → Bool} {ws : Nat → List Nat} {k i d y z : Nat} (hk : k < 4) (hi : i < (ws k).length) (hd : i + 1 + d < (ws k).length) (hy : (ws k).getD i 0 = y) (hz : (ws k).getD (i + 1 + d) 0 = z) (h1 : pr y z = false) (h2 : pr z y = false) :
    (pk pr ws 4)[(pre pr ws k i d).length]? = some (k, y, z) := by
  have h := pre_prefix (pr := pr) (d := d + 1) hk hi (by omega)
  rw [pre_d, hy, hz, pOne, h1, h2] at h
  obtain ⟨t, ht⟩ := h
  rw [← ht]
  simp
end Go.Proofs.Ybulkcsym
