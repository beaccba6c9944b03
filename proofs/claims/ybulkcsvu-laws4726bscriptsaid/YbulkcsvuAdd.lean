/-
  OUR OWN. 'distinctCounter.add' (17), 'twoWayCounter.add' (12), as long as all is counted exactly.
-/
import Derived.Test.YbulkcsvuSame
namespace Go.Proofs.Ybulkcsvu
open Go.RowKit Go.Maps

/-- All that lay there is as it was, but for the blocks in 'ex'. -/
structure Kp (ex : Nat → Prop) (w w' : World) : Prop where
  os : w'.os = w.os
  tape : w'.tape = w.tape
  output : w'.output = w.output
  size : w.heap.size ≤ w'.heap.size
  block : ∀ k, k < w.heap.size → ¬ ex k → w'.heap[k]? = w.heap[k]?
theorem Kp.refl (ex : Nat → Prop) (w : World) : Kp ex w w := ⟨rfl, rfl, rfl, Nat.le_refl _, fun _ _ _ => rfl⟩
theorem Kp.trans {ex : Nat → Prop} {a b c : World} (h : Kp ex a b) (k : Kp ex b c) : Kp ex a c :=
  ⟨k.os.trans h.os, k.tape.trans h.tape, k.output.trans h.output, Nat.le_trans h.size k.size, fun i hi hx => (k.block i (Nat.lt_of_lt_of_le hi h.size) hx).trans (h.block i hi hx)⟩
theorem Kp.mono {ex ex' : Nat → Prop} {a b : World} (h : Kp ex a b) (hx : ∀ k, k < a.heap.size → ex k → ex' k) : Kp ex' a b := ⟨h.os, h.tape, h.output, h.size, fun i hi hn => h.block i hi fun he => hn (hx i hi he)⟩
theorem Kp.setCell {ex : Nat → Prop} (w : World) (a : Addr) (v : Value) (h : ex a.block) : Kp ex w (w.setCell a v) :=
  ⟨rfl, rfl, rfl, by simp, fun k _ hn => Below.heap_setCell _ _ _ _ fun e => hn (e ▸ h)⟩
theorem Kp.alloc {ex : Nat → Prop} (w : World) (o : Obj) : Kp ex w (w.alloc o) := ⟨rfl, rfl, rfl, by simp, fun k hk _ => Below.heap_alloc _ _ _ hk⟩
theorem Kp.turned {ex : Nat → Prop} {w w' : World} {b : Nat} (h : w.mapTurned w' b) (hb : ex b) : Kp ex w w' := by
  obtain ⟨es, cl, es', cl', h1, rfl⟩ := h
  refine ⟨rfl, rfl, rfl, by show w.heap.size ≤ (w.heap.setIfInBounds b _).size; simp, fun k hk hn => ?_⟩
  show (w.heap.setIfInBounds b _)[k]? = w.heap[k]?
  have hne : b ≠ k := fun e => hn (by rw [← e]; exact hb)
  rw [Array.getElem?_setIfInBounds, if_neg hne]
theorem Kp.below {B : Nat} {ex : Nat → Prop} {w0 w w' : World} (h : Kp ex w w') (hb : Below B w0 w) (hB : B ≤ w.heap.size) (hx : ∀ k, ex k → B ≤ k) : Below B w0 w' :=
  hb.trans ⟨h.os, h.tape, h.output, h.size, fun k hk => h.block k (Nat.lt_of_lt_of_le hk hB) fun he => by have := hx k he; omega⟩
theorem Kp.blk {ex : Nat → Prop} {w w' : World} (h : Kp ex w w') {b : Nat} {e : TypeId} {L : List Value} (hb : Blk w b e L) (hn : ¬ ex b) : Blk w' b e L := hb.block (h.block b hb.lt hn)

theorem map_ne_blk {w : World} {cb b sz : Nat} {e : TypeId} {L : List Value} {f : Int → Option Value} (hb : Blk w cb e L) (hM : HasMap w Yba.prog 41 (Lit.int .u64) b sz f) : cb ≠ b := by
  intro h
  subst h
  obtain ⟨D, ⟨es, clock, h1, _⟩, _⟩ := hM
  unfold Blk at hb
  rw [hb] at h1
  cases h1
theorem inSet_snoc (vals : List Int) (h l : Int) : (if l = h then some (.agg #[]) else inSet vals l) = inSet (vals ++ [h]) l := by
  unfold inSet
  by_cases e : l = h
  · simp [e]
  · simp [e]
theorem put_map {b : Nat} {vals : List Int} {h : Int} {w' : World} (hM : HasMap w' Yba.prog 41 (Lit.int .u64) b (if (inSet vals h).isSome then dd vals else dd vals + 1) (fun l => if l = h then some (.agg #[]) else inSet vals l)) :
    HasMap w' Yba.prog 41 (Lit.int .u64) b (dd (vals ++ [h])) (inSet (vals ++ [h])) := by
  have e : dd (vals ++ [h]) = if (inSet vals h).isSome then dd vals else dd vals + 1 := by
    rw [dd_snoc]
    unfold inSet
    by_cases hx : h ∈ vals <;> simp [hx]
  rw [e]
  exact hM.congr (inSet_snoc vals h)

set_option maxRecDepth 100000 in
set_option maxHeartbeats 1000000 in
theorem dadd (cb o base : Nat) (h : Int) (L : List Value) (mv : Option Nat) (vals : List Int) (w : World) (hb : Blk w cb 39 L) (hL0 : L[o]? = some (.map mv)) (hL1 : L[o + 1]? = some (.slice none 0 0)) (hM : MapOf w base mv vals) (hbase : base ≤ w.heap.size) (hwf : (Lit.int .u64 h).wf = true) (hlen : vals.length < 4096) :
    Calls Yba.prog 17 #[.pointer (some ⟨cb, o, none⟩), .int .u64 h] w fun e w' => e = .returned (.tuple #[]) ∧ ∃ b, Blk w' cb 39 (L.set o (.map (some b))) ∧ MapOf w' base (some b) (vals ++ [h]) ∧ (mv = some b ∨ (mv = none ∧ b = w.heap.size)) ∧ Kp (fun k => k = cb ∨ k = b) w w' := by
  have c0 : w.cell? ⟨cb, o, none⟩ = some (.map mv) := hb.cell hL0
  have c1 : w.cell? ⟨cb, o + 1, none⟩ = some (.slice none 0 0) := hb.cell hL1
  have f0 := hb.free o
  have hcl := hb.lt
  have hkey := key41 hwf
  have q1 := fun (w : World) (r : Option Nat) => run_eql_map_nil (P := Yba.prog) w 35 41 69 r Yba.underlying35
  have hd := dd_le (vals ++ [h])
  simp only [List.length_append, List.length_singleton] at hd
  rcases hM with ⟨rfl, rfl⟩ | ⟨b, rfl, hbb, hne, hM⟩
  · have hMm := HasMap.made (w.setCell ⟨cb, o, none⟩ (.map (some w.heap.size))) Yba.prog 41 (Lit.int .u64)
    rw [World.size_setCell] at hMm
    have HB := hide hb
    clear hb
    have HKm : Hid (Kp (fun k => k = cb ∨ k = w.heap.size) w ((w.setCell ⟨cb, o, none⟩ (.map (some w.heap.size))).alloc (.map #[] 0))) := (Kp.setCell _ _ _ (.inl rfl)).trans (Kp.alloc _ _)
    have HBm : Hid (Blk ((w.setCell ⟨cb, o, none⟩ (.map (some w.heap.size))).alloc (.map #[] 0)) cb 39 (L.set o (.map (some w.heap.size)))) := (HB.out.set o _).alloc _
    have HcL : Hid ((L.set o (.map (some w.heap.size)))[o]? = some (.map (some w.heap.size))) := List.getElem?_set_self (List.getElem?_eq_some_iff.1 hL0).1
    have hmk : (Instr.makeMap 35 none).run Yba.prog w = .ok (.map (some w.heap.size)) (w.alloc (.map #[] 0)) := by kernel_rfl
    go_enter Yba.func17, Yba.ntmps17
    go_wp2_with (at_mapUpdate; refine wpList_put _ rfl _ _ _ 35 rfl 41 69 law41 Yba.underlying35 w.heap.size 0 _ rfl hMm (by unfold maxLen; omega) int_inj _ _ h rfl rfl hkey ?_; intro w3 hM3 ht3; have hB3 := (Kp.turned (ex := fun k => k = w.heap.size) ht3 rfl).blk HBm.out (by show cb ≠ w.heap.size; omega); have c3 : w3.cell? ⟨cb, o, none⟩ = some (.map (some w.heap.size)) := hB3.cell HcL.out; have hln := hM3.len Yba.underlying35 3; simp only [Option.isSome_none, Bool.false_eq_true, if_false, Nat.zero_add] at hln)
    go_end0
    refine ⟨rfl, w.heap.size, hB3, .inr ⟨w.heap.size, rfl, hbase, by simp, ?_⟩, .inr ⟨trivial, rfl⟩, HKm.out.trans (Kp.turned ht3 (.inr rfl))⟩
    exact put_map (vals := []) hM3
  · have HB := hide hb
    have hne' := map_ne_blk hb hM
    obtain ⟨sz, hsz⟩ : ∃ sz, sz = dd vals := ⟨_, rfl⟩
    have hszl : sz ≤ 4096 := by rw [hsz]; have := dd_le vals; omega
    have HM := hide hM
    rw [← hsz] at HM
    obtain ⟨sz2, hsz2⟩ : ∃ sz2, sz2 = if (inSet vals h).isSome then sz else sz + 1 := ⟨_, rfl⟩
    have hsz3 : decide ((4096 : Int) < (sz2 : Int)) = false := decide_eq_false (by
      have e : dd (vals ++ [h]) = sz2 := by
        rw [hsz2, hsz, dd_snoc]
        unfold inSet
        by_cases hx : h ∈ vals <;> simp [hx]
      omega)
    have HSZ := hide hsz
    have HSZ2 := hide hsz2
    clear hb hM hsz hsz2
    go_enter Yba.func17, Yba.ntmps17
    go_wp2_with (at_mapUpdate; refine wpList_put _ rfl _ _ _ 35 rfl 41 69 law41 Yba.underlying35 b sz _ rfl HM.out (by unfold maxLen; omega) int_inj _ _ h rfl rfl hkey ?_; intro w3 hM3 ht3; have hB3 := (Kp.turned (ex := fun k => k = b) ht3 rfl).blk HB.out hne'; have c3 : w3.cell? ⟨cb, o, none⟩ = some (.map (some b)) := hB3.cell hL0; have hln := hM3.len Yba.underlying35 3; rw [← HSZ2.out] at hln; have HM3 := hide hM3; clear hM3)
    go_end0
    have hset : L.set o (.map (some b)) = L := by
      apply List.ext_getElem?
      intro i
      rw [List.getElem?_set]
      split
      · rename_i e
        subst e
        rw [hL0, if_pos (List.getElem?_eq_some_iff.1 hL0).1]
      · rfl
    refine ⟨rfl, b, by rw [hset]; exact hB3, .inr ⟨b, rfl, hbb, by simp, ?_⟩, .inl rfl, Kp.turned ht3 (.inr rfl)⟩
    have h3 := HM3.out
    rw [HSZ.out] at h3
    exact put_map h3

theorem MapOf.kp {ex : Nat → Prop} {w w' : World} {base : Nat} {mv : Option Nat} {vals : List Int} (h : MapOf w base mv vals) (hk : Kp ex w w') (hx : ∀ b, mv = some b → ¬ ex b) : MapOf w' base mv vals := by
  rcases h with h | ⟨b, rfl, h1, h2, h3⟩
  · exact .inl h
  · exact .inr ⟨b, rfl, h1, h2, h3.block (hk.block b h3.lt (hx b rfl))⟩
theorem MapOf.lt {w : World} {base b : Nat} {vals : List Int} (h : MapOf w base (some b) vals) : base ≤ b ∧ b < w.heap.size := by
  rcases h with ⟨h, _⟩ | ⟨b', h0, h1, _, h3⟩
  · cases h
  · cases h0
    exact ⟨h1, h3.lt⟩
abbrev ctr (m1 m2 : Option Nat) (nn : Bool) : List Value := [.map m1, .slice none 0 0, .map m2, .slice none 0 0, .bool nn]

theorem kp3 (w : World) (cb : Nat) (x y z : Value) : Kp (fun k => k = cb) w (((w.setCell ⟨cb, 4, none⟩ x).setCell ⟨cb, 2, none⟩ y).setCell ⟨cb, 3, none⟩ z) := by
  have h1 := Kp.setCell (ex := fun k => k = cb) w ⟨cb, 4, none⟩ x rfl
  have h2 := Kp.setCell (ex := fun k => k = cb) (w.setCell ⟨cb, 4, none⟩ x) ⟨cb, 2, none⟩ y rfl
  have h3 := Kp.setCell (ex := fun k => k = cb) ((w.setCell ⟨cb, 4, none⟩ x).setCell ⟨cb, 2, none⟩ y) ⟨cb, 3, none⟩ z rfl
  exact (h1.trans h2).trans h3

set_option maxRecDepth 100000 in
set_option maxHeartbeats 1000000 in
theorem wadd (cb base : Nat) (x y : Int) (nb nn : Bool) (m1 m2 : Option Nat) (T N : List Int) (w : World) (hb : Blk w cb 39 (ctr m1 m2 nn)) (hcb : cb < base) (hbase : base ≤ w.heap.size) (h1 : MapOf w base m1 T) (h2 : nn = false → MapOf w base m2 N) (h2n : nn = true → m2 = none)
    (hne : ∀ b, m1 = some b → m2 = some b → False) (hwx : (Lit.int .u64 x).wf = true) (hwy : (Lit.int .u64 y).wf = true) (hT : T.length < 4096) (hN : N.length < 4096) :
    Calls Yba.prog 12 #[.pointer (some ⟨cb, 0, none⟩), .int .u64 x, .int .u64 y, .bool nb] w fun e w' => e = .returned (.tuple #[]) ∧ ∃ m1' m2', Blk w' cb 39 (ctr m1' m2' (nn || !nb)) ∧ MapOf w' base m1' (T ++ [x]) ∧ ((nn || !nb) = false → MapOf w' base m2' (N ++ [y])) ∧ ((nn || !nb) = true → m2' = none) ∧
      (∀ b, m1' = some b → m2' = some b → False) ∧ Kp (fun k => k = cb ∨ m1 = some k ∨ m2 = some k) w w' := by
  have C := hide (dadd cb 0 base x (ctr m1 m2 nn) m1 T w hb rfl rfl h1 hbase hwx hT)
  go_enter Yba.func12, Yba.ntmps12
  go_wp2_with fail
  refine C.out.mono ?_
  rintro e w1 ⟨rfl, b1, hB1, hM1, hm1, hK1⟩
  have hB1 : Blk w1 cb 39 (ctr (some b1) m2 nn) := hB1
  have hb1 : base ≤ b1 := hM1.lt.1
  have hn2 : ∀ b, m2 = some b → b ≠ b1 := by
    intro b hm e
    rcases hm1 with h | ⟨_, h⟩
    · exact hne b (by rw [h, e]) hm
    · by_cases hnn : nn = true
      · rw [h2n hnn] at hm; cases hm
      · have := h2 (by simpa using hnn); rw [hm] at this; have := this.lt.2; omega
  have h2' : nn = false → MapOf w1 base m2 N := fun h => (h2 h).kp hK1 (fun b hm he => by
    rcases he with he | he
    · have := h2 h; rw [hm] at this; have := this.lt.1; omega
    · exact hn2 _ hm he)
  have hK1' : Kp (fun k => k = cb ∨ m1 = some k ∨ m2 = some k) w w1 := hK1.mono (fun k hk he => by
    rcases he with he | he
    · exact .inl he
    · rcases hm1 with h | ⟨_, h⟩
      · exact .inr (.inl (by rw [he]; exact h))
      · omega)
  have c4 : w1.cell? ⟨cb, 4, none⟩ = some (.bool nn) := hB1.cell rfl
  have HB1 := hide hB1
  have HM1 := hide hM1
  clear C hm1 hK1 h2 hB1 hM1
  cases nn with
  | true =>
    go_wp2
    go_end0
    exact ⟨rfl, some b1, m2, HB1.out, HM1.out, fun h => by simp at h, fun _ => h2n trivial, fun b e1 e2 => hn2 b e2 (by cases e1; rfl), hK1'⟩
  | false =>
    cases nb with
    | false =>
      have c2 : w1.cell? ⟨cb, 2, none⟩ = some (.map m2) := HB1.out.cell rfl
      have c3 : w1.cell? ⟨cb, 3, none⟩ = some (.slice none 0 0) := HB1.out.cell rfl
      have f2 := HB1.out.free 2
      have f3 := HB1.out.free 3
      have f4 := HB1.out.free 4
      go_wp2
      go_end0
      have hB2 := ((HB1.out.set 4 (.bool true)).set 2 (.map none)).set 3 (.slice none 0 0)
      have hK2 : Kp (fun k => k = cb) w1 (((w1.setCell ⟨cb, 4, none⟩ (.bool true)).setCell ⟨cb, 2, none⟩ (.map none)).setCell ⟨cb, 3, none⟩ (.slice none 0 0)) := kp3 w1 cb _ _ _
      exact ⟨rfl, some b1, none, hB2, HM1.out.kp hK2 (fun b hb he => by cases hb; have := HM1.out.lt.1; omega), fun h => by simp at h, fun _ => rfl, (fun b _ e2 => by cases e2), hK1'.trans (hK2.mono (fun k _ he => .inl he))⟩
    | true =>
      have C := hide (dadd cb 2 base y (ctr (some b1) m2 false) m2 N w1 HB1.out rfl rfl (h2' rfl) (by have := hK1'.size; omega) hwy hN)
      go_wp2_with fail
      refine C.out.mono ?_
      rintro e w2 ⟨rfl, b2, hB2, hM2, hm2, hK2⟩
      go_wp2
      go_end0
      have hb12 : b2 ≠ b1 := by
        rcases hm2 with h | ⟨_, h⟩
        · exact hn2 b2 h
        · have := HM1.out.lt.2; omega
      refine ⟨rfl, some b1, some b2, hB2, HM1.out.kp hK2 (fun b hb he => ?_), fun _ => hM2, fun h => by simp at h, fun b e1 e2 => hb12 (by cases e1; cases e2; rfl), hK1'.trans (hK2.mono (fun k hk he => by
        rcases he with he | he
        · exact .inl he
        · rcases hm2 with h | ⟨_, h⟩
          · exact .inr (.inr (by rw [he]; exact h))
          · omega))⟩
      cases hb
      rcases he with he | he
      · omega
      · exact hb12 he.symm
end Go.Proofs.Ybulkcsvu
