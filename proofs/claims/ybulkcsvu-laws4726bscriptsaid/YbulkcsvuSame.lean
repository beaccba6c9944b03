/-
  OUR OWN. 'zzs4726bsame' (function 13).
-/
import Derived.Test.YbulkcsvuSort
import Derived.Test.YbulkcsvuSet
import Derived.Test.YbulkcsvuMapw
import Derived.Shelf.SlGeneric
import Derived.Ground.SlgnProg
import Derived.Shelf.SlicesE.Clone
import Derived.Shelf.SlicesE.Compact
namespace Go.Proofs.Ybulkcsvu
open Go.RowKit Go.Shelf Go.Maps

shelf_lay_g SlLaysE0.n41 Slgn 41 at Yba 18 as Yba.layClone
shelf_lay_g SlLaysE.n43 Slgn 43 at Yba 20 as Yba.layCompact

theorem info41 : (Yba.prog.info? 41).map (fun i => (i.zero, i.size, i.bytes)) = some (some (.int .u64 0), 1, 8) := by kernel_rfl

theorem clone_walk (b c : Nat) (vals : List Int) (w : World) (hn : vals.length ≤ 5000) (hc : ∀ j u, (vals.map U)[j]? = some u → w.cell? ⟨b, 0 + j, none⟩ = some u) :
    Calls Yba.prog 18 #[.slice (some ⟨b, 0, none⟩) vals.length c] w fun e w' => ∃ v', e = .returned v' ∧ w'.ownsRow w.heap.size 41 1 v' vals.length (vals.map U) ∧ v' ≠ .slice none 0 0 ∧ Below w.heap.size w w' := by
  obtain ⟨i0, hi, hz0, hz1, hz2⟩ := info_parts info41
  exact AnyE.slices_Clone Yba.layClone i0 (.int .u64 0) 1 8 hi hz0 hz1 hz2 rfl (by decide) Yba.sizeOf41 b 0 vals.length c (vals.map U) w (by simp) (by unfold maxLen; omega) (by omega) hc (fun u hu => by obtain ⟨x, _, rfl⟩ := List.mem_map.1 hu; rfl)
theorem compact_walk (blk cap : Nat) (d : Array Int) (w : World) (hH : Sort.Holds (Value.int .u64) w blk 0 d) (hn : d.size ≤ 5000) (hcap : d.size ≤ cap) :
    Calls Yba.prog 20 #[.slice (some ⟨blk, 0, none⟩) d.size cap] w fun e w' => e = .returned (.slice (some ⟨blk, 0, none⟩) (Lib.compactUpTo d d.size).length cap) ∧ ∃ q, w' = Sort.putRow (Value.int .u64) (Sort.ahead w q) blk 0 (Lib.compactUpTo d d.size ++ List.replicate (d.size - (Lib.compactUpTo d d.size).length) 0).toArray :=
  AnyE.slices_Compact Yba.layCompact (Value.int .u64) (fun _ => rfl) (EqlAt.intD _ _ .u64) (NeqAt.intD _ _ .u64) 0 Yba.zeroValue41 blk 0 cap d w hH (by omega) hcap

theorem law41 : Keyed Yba.prog 41 := int_keyed Yba.underlying41
theorem int_inj (x y : Int) (h : Lit.int .u64 x = Lit.int .u64 y) : x = y := by cases h; rfl
theorem key41 {x : Int} (h : (Lit.int .u64 x).wf = true) : keyOf Yba.prog 41 (.int .u64 x) = some (.int .u64 x) := keyOf_int_mk Yba.underlying41 h
theorem zero69 (w : World) : (zeroValue 69).run Yba.prog w = .ok (.agg #[]) w := Yba.zeroValue69 w

/-- The map of a counter: nil where nothing has been counted; else the set of what has been. -/
def inSet (vals : List Int) (l : Int) : Option Value := if l ∈ vals then some (.agg #[]) else none
def MapOf (w : World) (base : Nat) (mv : Option Nat) (vals : List Int) : Prop :=
  (mv = none ∧ vals = []) ∨ ∃ b, mv = some b ∧ base ≤ b ∧ vals ≠ [] ∧ HasMap w Yba.prog 41 (Lit.int .u64) b (dd vals) (inSet vals)

/-- The row that a clone is. -/
theorem row_SR {B base : Nat} {w0 w : World} {v : Value} {vals : List Int} (h : w.ownsRow base 41 1 v vals.length (vals.map U)) (h0 : 0 < vals.length) (hb : Below B w0 w) (hB : B ≤ base) :
    ∃ g cap sp, v = .slice (some ⟨g, 0, none⟩) vals.length cap ∧ vals.length ≤ cap ∧ SR B w0 w g vals.toArray sp := by
  rcases h.2 with ⟨_, hn⟩ | ⟨g, cap, cur, rfl, hg, hcell, hnc, _, _, htake⟩
  · omega
  · refine ⟨g, cap, cur.toList.drop (vals.length * 1), rfl, hnc, hb, by omega, ?_⟩
    show w.heap[g]? = _
    rw [hcell]
    congr 2
    rw [show vals.toArray.toList = vals by simp, ← htake, List.take_append_drop]

/-- Behind Compact. -/
theorem compact_after {B blk q : Nat} {w wr : World} {d e : Array Int} {sp : List Value} (h : SR B w wr blk d sp) (he : e.size = d.size) :
    Below B w (Sort.putRow (Value.int .u64) (Sort.ahead wr q) blk 0 e) ∧ ∀ j, j < e.size → (Sort.putRow (Value.int .u64) (Sort.ahead wr q) blk 0 e).cell? ⟨blk, j, none⟩ = some (.int .u64 e[j]!) := by
  have hH : Sort.Holds (Value.int .u64) (Sort.ahead wr q) blk 0 d := fun j hj => ⟨by rw [Nat.zero_add]; exact h.cell hj rfl, by rw [Nat.zero_add]; exact h.free j⟩
  refine ⟨⟨h.below.os, h.below.tape, h.below.output, ?_, fun k hk => ?_⟩, fun j hj => ?_⟩
  · have := h.below.size
    simpa [Sort.putRow, Sort.mapBlock, Sort.ahead] using this
  · rw [← h.below.block k hk]
    show (wr.heap.modify blk _)[k]? = wr.heap[k]?
    rw [Array.getElem?_modify, if_neg (by have := h.le; omega)]
  · have := Sort.cell?_putRow (Value.int .u64) (Sort.ahead wr q) blk 0 d e hH he j hj
    rw [Nat.zero_add] at this
    exact this

set_option maxRecDepth 100000 in
set_option maxHeartbeats 1000000 in
theorem compact_none (a : Option Addr) (c : Nat) (w : World) : Calls Yba.prog 20 #[.slice a 0 c] w fun e w' => e = .returned (.slice a 0 c) ∧ w' = w := by
  go_enter Yba.func20, Yba.ntmps20
  go_wp2
  go_ret
  exact ⟨rfl, rfl⟩

set_option maxRecDepth 100000 in
set_option maxHeartbeats 1000000 in
theorem same_nil (cb o tb cap : Nat) (w : World) (c0 : w.cell? ⟨cb, o, none⟩ = some (.map none)) (c1 : w.cell? ⟨cb, o + 1, none⟩ = some (.slice none 0 0)) (hcb : cb < w.heap.size) :
    Calls Yba.prog 13 #[.pointer (some ⟨cb, o, none⟩), .slice (some ⟨tb, 0, none⟩) 0 cap] w fun e w' => e = .returned (.bool true) ∧ Below w.heap.size w w' := by
  have C := hide (clone_walk tb cap [] w (by simp) (by simp))
  have S := hide fun a c w => sort_none a c w
  have K := hide fun a c w => compact_none a c w
  go_enter Yba.func13, Yba.ntmps13
  go_wp2_with fail
  refine C.out.mono ?_
  rintro e w1 ⟨v, rfl, hrow, _, hb⟩
  obtain ⟨a, c, rfl, _, _⟩ := ownsRow_slice hrow
  have d0 : w1.cell? ⟨cb, o, none⟩ = some (.map none) := (hb.cell (p := ⟨cb, o, none⟩) hcb).trans c0
  go_wp2_with fail
  refine (S.out _ _ _).mono ?_
  rintro e w2 ⟨rfl, rfl⟩
  go_wp2_with fail
  refine (K.out _ _ _).mono ?_
  rintro e w3 ⟨rfl, rfl⟩
  go_wp2
  go_loopw [6] (fun i wr => i = .int .i64 0 ∧ Below w.heap.size w wr) (fun _ _ => 0)
  case atStart => exact ⟨rfl, hb⟩
  case round =>
    obtain ⟨rfl, hb2⟩ := hrel
    go_wp2
    go_ret
    exact ⟨rfl, hb2⟩

set_option maxRecDepth 100000 in
set_option maxHeartbeats 1000000 in
theorem same_some (cb o tb cap b : Nat) (vals : List Int) (w : World) (c0 : w.cell? ⟨cb, o, none⟩ = some (.map (some b))) (c1 : w.cell? ⟨cb, o + 1, none⟩ = some (.slice none 0 0)) (hcb : cb < w.heap.size)
    (hM : HasMap w Yba.prog 41 (Lit.int .u64) b (dd vals) (inSet vals)) (hne : vals ≠ []) (hlen : vals.length ≤ 5000) (hwf : ∀ x ∈ vals, (Lit.int .u64 x).wf = true) (hc : ∀ j u, (vals.map U)[j]? = some u → w.cell? ⟨tb, 0 + j, none⟩ = some u) :
    Calls Yba.prog 13 #[.pointer (some ⟨cb, o, none⟩), .slice (some ⟨tb, 0, none⟩) vals.length cap] w fun e w' => e = .returned (.bool true) ∧ Below w.heap.size w w' := by
  have h0 : 0 < vals.length := List.length_pos_iff.2 hne
  have C := hide (clone_walk tb cap vals w hlen hc)
  have HM := hide hM
  have HWF := hide hwf
  have hbl := hM.lt
  obtain ⟨n, hn⟩ : ∃ n, n = vals.length := ⟨_, rfl⟩
  rw [← hn] at hlen C ⊢
  have HN := hide hn
  clear hM hwf hc hn
  go_enter Yba.func13, Yba.ntmps13
  go_wp2_with fail
  refine C.out.mono ?_
  rintro e w1 ⟨v, rfl, hrow, _, hb⟩
  rw [HN.out] at hrow
  obtain ⟨g, cp, sp, rfl, hcp, hS⟩ := row_SR hrow h0 hb (Nat.le_refl _)
  rw [← HN.out] at hcp ⊢
  clear hrow C hb
  have S := hide (sort_walk w.heap.size g n cp vals.toArray sp w w1 hS (by simp [HN.out]) hlen)
  go_wp2_with fail
  refine S.out.mono ?_
  rintro e w2 ⟨rfl, d, hd, hsort, hS2⟩
  clear S hS
  have hH : Sort.Holds (Value.int .u64) w2 g 0 d := fun j hj => ⟨by rw [Nat.zero_add]; exact hS2.cell hj rfl, by rw [Nat.zero_add]; exact hS2.free j⟩
  have K := hide (compact_walk g cp d w2 hH (by omega) (by omega))
  obtain ⟨hu1, hu2⟩ := uniq_all (vals := vals) (d := d) (by rw [hsort])
  have hul : (Lib.compactUpTo d d.size).length ≤ d.size := by rw [hu1, hd, HN.out]; exact dd_le vals
  obtain ⟨us, hus⟩ : ∃ us, us = Lib.compactUpTo d d.size := ⟨_, rfl⟩
  rw [← hus] at K hu1 hu2 hul
  obtain ⟨L, hL⟩ : ∃ L, L = us.length := ⟨_, rfl⟩
  rw [← hL] at K hu1 hul
  rw [hd] at K hul
  clear hus hsort hH
  go_wp2_with fail
  refine K.out.mono ?_
  rintro e w3 ⟨rfl, q, rfl⟩
  obtain ⟨hb3, hc3⟩ := compact_after (q := q) (e := (us ++ List.replicate (n - L) 0).toArray) hS2 (by simp [← hL]; omega)
  generalize Sort.putRow (Value.int .u64) (Sort.ahead w2 q) g 0 (us ++ List.replicate (n - L) 0).toArray = w3 at hb3 hc3 ⊢
  have d0 : w3.cell? ⟨cb, o, none⟩ = some (.map (some b)) := (hb3.cell (p := ⟨cb, o, none⟩) hcb).trans c0
  have hM3 := HM.out.below hb3 hbl
  have hln := hM3.len Yba.underlying35 3
  rw [← hu1] at hln
  have hcells : ∀ i, i < L → ∃ x, x ∈ vals ∧ w3.cell? ⟨g, i, none⟩ = some (.int .u64 x) := by
    intro i hi
    have hi2 : i < us.length := by omega
    refine ⟨us[i], hu2 _ (List.getElem_mem hi2), ?_⟩
    rw [hc3 i (by simp [← hL]; omega), getElem!_pos _ i (by simp [← hL]; omega)]
    simp [List.getElem_append_left hi2]
  have HC := hide hcells
  have HM3 := hide hM3
  have hu3 : L ≤ 5000 := by omega
  have hneq : ((L : Int) != (L : Int)) = false := by simp
  clear hcells hc3 hM3 hu2 K hS2 HM
  go_wp2
  go_loopw [6] (fun i wr => ∃ k : Nat, k ≤ L ∧ i = .int .i64 k ∧ Below w3.heap.size w3 wr) (fun i _ => L - (intOf i).toNat)
  case atStart => exact ⟨0, Nat.zero_le _, rfl, Below.refl _ _⟩
  case round =>
    obtain ⟨k, hk, rfl, hbr⟩ := hrel
    by_cases hkL : k < L
    · have hg1 : decide ((k : Int) < (L : Int)) = true := decide_eq_true (by omega)
      obtain ⟨x, hx, cx0⟩ := HC.out k hkL
      have cx : wr.cell? ⟨g, k, none⟩ = some (.int .u64 x) := (hbr.cell (p := ⟨g, k, none⟩) (lt_of_cell cx0)).trans cx0
      have e0 : wr.cell? ⟨cb, o, none⟩ = some (.map (some b)) := (hbr.cell (p := ⟨cb, o, none⟩) (lt_of_cell d0)).trans d0
      have hMr := HM3.out.below hbr HM3.out.lt
      have hlook := hMr.drew.look_ok law41 Yba.underlying35 (zero69 _) (key41 (HWF.out x hx))
      rw [show inSet vals x = some (.agg #[]) by simp [inSet, hx]] at hlook
      have hlook2 := (hMr.alloc (.cells #[] 69)).drew.look_ok law41 Yba.underlying35 (zero69 _) (key41 (HWF.out x hx))
      rw [show inSet vals x = some (.agg #[]) by simp [inSet, hx]] at hlook2
      simp only [Option.getD_some, Option.isSome_some] at hlook hlook2
      have hgl := lt_of_cell cx
      have hcl := lt_of_cell e0
      have HB := hide hbr
      clear hbr cx0 hMr hx
      go_wp2_with fail
      go_region
      all_goals
        go_wp2
        go_roundw
        case rel => exact ⟨k + 1, by omega, by go_num, (HB.out.drew).alloc (by have := HB.out.size; simpa using this) _⟩
        case measure => simp [intOf]; omega
    · have hg1 : decide ((k : Int) < (L : Int)) = false := decide_eq_false (by omega)
      go_wp2
      go_ret
      exact ⟨rfl, hb3.trans (hbr.mono hb3.size)⟩
end Go.Proofs.Ybulkcsvu
