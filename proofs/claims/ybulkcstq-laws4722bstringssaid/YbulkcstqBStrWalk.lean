/-
  OUR OWN. 'LawS4722BStrings' (function 5): the walk.
-/
import Derived.Test.YbulkcstqReady
import Derived.BigRegion
import Derived.BigQuiet
import Derived.Deep.QuietTactic
import Derived.RegionTactic
import Derived.Laws.CopyOwn
import Derived.Deep.OwnRows
namespace Go.Proofs.Ybulkcstq
open Go.RowKit Go.Maps Go.WideMaps

/-- An argument's slice, told so that one walk serves a nil one too: where there is an element it leads to block b, from place off on. -/
theorem index_arg {t e : TypeId} (ht : Yba.prog.underlying t = some (.slice e)) (he : (sizeOf e).run Yba.prog = fun w => .ok 1 w) {a : Option Addr} {len b off : Nat} (ha : 0 < len → a = some ⟨b, off, none⟩) (cap : Nat) {i : Nat} (hi : i < len) (w : World) :
    (Instr.indexAt t (.slice a len cap) (.int .i64 (i : Int))).run Yba.prog w = .ok (.pointer (some ⟨b, off + i, none⟩)) w := by
  rw [ha (by omega)]
  have h2 : Yba.prog.elem t = e := by simp [Program.elem, ht]
  rw [run_indexAt_slice (P := Yba.prog) w t _ len cap .i64 i (by rw [h2]; exact ht), if_pos ⟨by omega, by omega⟩, h2, he]
  simp [Result.andThen, Addr.add]

theorem size9 : (sizeOf 9).run Yba.prog = fun w => .ok 1 w := by kernel_rfl
theorem size4 : (sizeOf 4).run Yba.prog = fun w => .ok 1 w := by kernel_rfl

/-- The flag of key number i. -/
def flag (dn : List Bool) (i : Nat) : Bool := dn.getD i false
/-- The map behind the first k keys. -/
def planTo (ks : List ByteArray) (dn : List Bool) : Nat → Plan
  | 0 => fun _ => none
  | k + 1 => fun l => if l = (ks.getD k ByteArray.empty).data.toList then some (false, .slice none 0 0, flag dn k) else planTo ks dn k l

theorem plan_step {wr : World} {ks : List ByteArray} {dn : List Bool} {b sz k : Nat} {s : ByteArray} (hs : s = ks.getD k ByteArray.empty)
    (h : HasMap wr Yba.prog 9 Lit.string b sz (fun l => if l = s.data.toList then some (subV false (.slice none 0 0) (flag dn k)) else planV (planTo ks dn k) l)) :
    HasMap wr Yba.prog 9 Lit.string b sz (planV (planTo ks dn (k + 1))) :=
  h.congr fun l => by
    unfold planV
    simp only [planTo, ← hs]
    split <;> rfl

theorem turn_step {w wr w1 : World} {v : Value} (hturn : wr.drew.mapTurned w1 w.heap.size) (hS : wr.cell? ⟨w.heap.size + 1, 3, none⟩ = some v) (hSz : w.heap.size + 1 < wr.heap.size) (hnx : Below w.heap.size w wr) :
    w1.cell? ⟨w.heap.size + 1, 3, none⟩ = some v ∧ w.heap.size + 1 < w1.heap.size ∧ Below w.heap.size w w1 := by
  have hg := hturn.grown
  have e : w1.heap[w.heap.size + 1]? = wr.drew.heap[w.heap.size + 1]? := hg.block _ hSz (by simp)
  have hz : wr.heap.size ≤ w1.heap.size := hg.size
  exact ⟨(World.cell?_of_block (w := wr.drew) e).trans hS, by omega, hnx.drew.grown hg hnx.size (fun j hj => by cases hj; exact Nat.le_refl _)⟩

theorem made_here (wr : World) (lp : Nat) : (wr.alloc (.cells (madeCells #[.string ByteArray.empty] lp) 9)).heap[wr.heap.size]? = some (.cells (madeCells #[.string ByteArray.empty] lp).toList.toArray 9 (0, 0)) := by
  show (wr.heap.push _)[wr.heap.size]? = _
  simp

theorem copy_pos {w wr : World} {O : Obj} {ds : List ByteArray} {ap : Option Addr} {lp bp op : Nat} (lds : ds.length = lp) (hap : 0 < lp → ap = some ⟨bp, op, none⟩)
    (hcp : ∀ i, i < lp → w.cell? ⟨bp, op + i, none⟩ = some (.string (ds.getD i ByteArray.empty))) (hbp : 0 < lp → bp < w.heap.size) (hnx : Below w.heap.size w wr) :
    0 < (ds.map Value.string).length → some (⟨wr.heap.size, 0, none⟩ : Addr) = some ⟨wr.heap.size, 0, none⟩ ∧ ∃ ad, ap = some ad ∧ ∀ j v, (ds.map Value.string)[j]? = some v → (wr.alloc O).cell? (ad.add j) = some v := by
  intro h0
  rw [List.length_map] at h0
  refine ⟨rfl, _, hap (by omega), fun j v hj => ?_⟩
  rw [List.getElem?_map, Option.map_eq_some_iff] at hj
  obtain ⟨s, hs, rfl⟩ := hj
  have hjl : j < ds.length := (List.getElem?_eq_some_iff.1 hs).1
  have h1 := hcp j (by omega)
  rw [List.getD, hs] at h1
  have hb : bp < wr.heap.size := Nat.lt_of_lt_of_le (hbp (by omega)) hnx.size
  have e1 : (wr.alloc O).cell? ⟨bp, op + j, none⟩ = wr.cell? ⟨bp, op + j, none⟩ := World.cell?_of_block (w := wr) (Below.heap_alloc wr O bp hb)
  rw [show (⟨bp, op, none⟩ : Addr).add j = ⟨bp, op + j, none⟩ from by simp [Addr.add], e1]
  exact (hnx.cell (p := ⟨bp, op + j, none⟩) (hbp (by omega))).trans h1

theorem after_copy {w wr w2 : World} {ds : List ByteArray} {lp sz : Nat} {g : Plan} {v : Value} (lds : ds.length = lp) (hown : HasMap wr Yba.prog 9 Lit.string w.heap.size sz (planV g)) (hS : wr.cell? ⟨w.heap.size + 1, 3, none⟩ = some v) (hSz : w.heap.size + 1 < wr.heap.size) (hnx : Below w.heap.size w wr)
    (hg2 : w2.heap[wr.heap.size]? = some (.cells (splice (madeCells #[.string ByteArray.empty] lp).toList 0 (ds.map Value.string)).toArray 9 (0, 0))) (hb2 : Below wr.heap.size (wr.alloc (.cells (madeCells #[.string ByteArray.empty] lp) 9)) w2) :
    HasMap w2 Yba.prog 9 Lit.string w.heap.size sz (planV g) ∧ w2.cell? ⟨w.heap.size + 1, 3, none⟩ = some v ∧ w.heap.size + 1 < w2.heap.size ∧ wr.heap.size < w2.heap.size ∧ Below w.heap.size w w2 ∧ ∀ i, i < lp → w2.cell? ⟨wr.heap.size, i, none⟩ = some (.string (ds.getD i ByteArray.empty)) := by
  have hb3 : Below wr.heap.size wr w2 := ((Below.refl _ _).alloc (Nat.le_refl _) _).trans hb2
  have hz := hb2.size
  simp at hz
  refine ⟨hown.below hb3 (by omega), (hb3.cell (p := ⟨w.heap.size + 1, 3, none⟩) hSz).trans hS, by omega, by omega, hnx.trans (hb3.mono hnx.size), fun i hi => ?_⟩
  have e : splice (madeCells #[.string ByteArray.empty] lp).toList 0 (ds.map Value.string) = ds.map Value.string := by
    unfold splice
    rw [List.drop_of_length_le (by simp [size_madeCells]; omega)]
    simp
  rw [e] at hg2
  simp only [World.cell?, hg2]
  simp [List.getElem?_eq_getElem (show i < ds.length by omega)]

theorem ready_last {g : Plan} {l : List ByteArray} {s : ByteArray} (h : doneB g s = false) : readyB g (l ++ [s]) = false := by
  unfold readyB
  rw [List.all_append]
  simp [h]
theorem ready_more {g : Plan} {l : List ByteArray} {s : ByteArray} (h : doneB g s = true) : readyB g (l ++ [s]) = readyB g l := by
  unfold readyB
  rw [List.all_append]
  simp [h]

theorem plan_hit {ks : List ByteArray} {dn : List Bool} {k n : Nat} {s s1 : ByteArray} (hpl : planTo ks dn k s.data.toList = planTo ks dn (n + 1) s.data.toList) (hs1 : s1 = ks.getD n ByteArray.empty)
    (he : (s1.toList == s.toList) = true) : doneB (planTo ks dn k) s = flag dn n := by
  rw [beq_iff_eq, ByteArray.toList_eq, ByteArray.toList_eq] at he
  rw [doneB, planAt, hpl]
  simp only [planTo, ← hs1]
  rw [if_pos he.symm]
  rfl

theorem plan_miss {ks : List ByteArray} {dn : List Bool} {n : Nat} {s s1 : ByteArray} (hs1 : s1 = ks.getD n ByteArray.empty)
    (he : (s1.toList == s.toList) = false) : planTo ks dn (n + 1) s.data.toList = planTo ks dn n s.data.toList := by
  rw [beq_eq_false_iff_ne, ByteArray.toList_eq, ByteArray.toList_eq] at he
  simp only [planTo, ← hs1]
  rw [if_neg (fun h => he h.symm)]

set_option maxRecDepth 100000 in
set_option maxHeartbeats 1000000 in
theorem bstr_walk (ak ad ap : Option Addr) (lk ck ld cd lp cp bk ok bd od bp op : Nat) (ks : List ByteArray) (dn : List Bool) (ds : List ByteArray) (w : World)
    (hak : 0 < lk → ak = some ⟨bk, ok, none⟩) (had : 0 < ld → ad = some ⟨bd, od, none⟩) (hap : 0 < lp → ap = some ⟨bp, op, none⟩)
    (lks : ks.length = lk) (ldn : dn.length = ld) (lds : ds.length = lp)
    (hck : ∀ i, i < lk → w.cell? ⟨bk, ok + i, none⟩ = some (.string (ks.getD i ByteArray.empty))) (hcd : ∀ i, i < ld → w.cell? ⟨bd, od + i, none⟩ = some (.bool (dn.getD i false)))
    (hcp : ∀ i, i < lp → w.cell? ⟨bp, op + i, none⟩ = some (.string (ds.getD i ByteArray.empty)))
    (hks : ∀ s ∈ ks, s.size ≤ maxLen) (hds : ∀ s ∈ ds, s.size ≤ maxLen) (hbk : 0 < lk → bk < w.heap.size) (hbd : 0 < ld → bd < w.heap.size) (hbp : 0 < lp → bp < w.heap.size) (hld : ld ≤ 9223372036854775807)
    (hk : lk ≤ 1024) (hp : lp ≤ 1024) :
    Calls Yba.prog 5 #[.slice ak lk ck, .slice ad ld cd, .slice ap lp cp] w fun e w' => e = .returned (.bool true) ∧ Below w.heap.size w w' := by
  have hmm := @run_makeMap Yba.prog
  have hd1 : decide ((1024 : Int) < (lk : Int)) = false := decide_eq_false (by omega)
  have hd2 : decide ((1024 : Int) < (lp : Int)) = false := decide_eq_false (by omega)
  go_enter Yba.func5, Yba.ntmps5
  go_wp2
  go_loopw [30] (fun i wr => ∃ k sz : Nat, k ≤ lk ∧ i = .int .i64 k ∧ sz ≤ k ∧ HasMap wr Yba.prog 9 Lit.string w.heap.size sz (planV (planTo ks dn k)) ∧ wr.cell? ⟨w.heap.size + 1, 3, none⟩ = some (.map (some w.heap.size)) ∧ w.heap.size + 1 < wr.heap.size ∧ Below w.heap.size w wr)
    (fun i _ => lk - (intOf i).toNat)
  case atStart => exact ⟨0, 0, Nat.zero_le _, rfl, Nat.le_refl _, (HasMap.made _ _ _ _).alloc _, by simp, by simp, ((Below.refl _ _).alloc (Nat.le_refl _) _).alloc (by simp) _⟩
  case round =>
    obtain ⟨k, sz, hkl, rfl, hszk, hown, hS, hSz, hnx⟩ := hrel
    by_cases hlt : k < lk
    · obtain ⟨s, hs⟩ : ∃ s, s = ks.getD k ByteArray.empty := ⟨_, rfl⟩
      have hcx : wr.cell? ⟨bk, ok + k, none⟩ = some (.string s) := by rw [hs]; exact (hnx.cell (hbk (by omega))).trans (hck k hlt)
      have hkey : keyOf Yba.prog 9 (.string s) = some (.string s.data.toList) := keyOf_string_mk Yba.underlying9 (by
        rw [hs, List.getD, List.getElem?_eq_getElem (by omega)]; exact hks _ (List.getElem_mem _))
      have hix := index_arg Yba.underlying28 size9 hak ck hlt
      have HS := hide hs
      clear hs
      obtain ⟨w1, hrun, hown1, hturn⟩ := hown.drew.store law9 Yba.underlying27 (by unfold maxLen; omega) string_inj (val := subV false (.slice none 0 0) (flag dn k)) hkey
      by_cases hkd : k < ld
      · have hkd' : (k : Int) < (ld : Int) := by omega
        have hcy : wr.cell? ⟨bd, od + k, none⟩ = some (.bool (flag dn k)) := (hnx.cell (hbd (by omega))).trans (hcd k hkd)
        have hiy := index_arg Yba.underlying73 size4 had cd hkd
        clear hck hcd hcp hks hds hak had hap hmm
        go_wp2
        go_region
        go_wp2
        go_roundw
        case rel => exact ⟨k + 1, _, by omega, by go_num, by split <;> omega, plan_step HS.out hown1, turn_step hturn hS hSz hnx⟩
        case measure => simp [intOf]; omega
      · have hdk : decide ((k : Int) < (ld : Int)) = false := decide_eq_false (by omega)
        have hfl : flag dn k = false := by unfold flag; rw [List.getD, List.getElem?_eq_none (by omega)]; rfl
        rw [hfl] at hrun
        clear hck hcd hcp hks hds hak had hap hmm hfl
        go_wp2
        go_region
        go_wp2
        go_roundw
        case rel => exact ⟨k + 1, _, by omega, by go_num, by split <;> omega, plan_step HS.out hown1, turn_step hturn hS hSz hnx⟩
        case measure => simp [intOf]; omega
    · obtain rfl : k = lk := by omega
      have hmk := fun w => run_make_row' (P := Yba.prog) 28 9 (.string ByteArray.empty) 16 Yba.underlying28 (by kernel_rfl) rfl .i64 .i64 lp (by omega) (by omega) w
      clear hmm
      have HG : Hid _ := made_here wr lp
      have HP := hide (copy_pos (w := w) (wr := wr) (O := .cells (madeCells #[.string ByteArray.empty] lp) 9) lds hap hcp hbp hnx)
      have HN : Hid ((ds.map Value.string).length = Nat.min lp lp) := by show _ = _; simp [lds]
      have HF : Hid (0 + (ds.map Value.string).length ≤ (madeCells #[.string ByteArray.empty] lp).toList.length) := by show _ ≤ _; simp [lds, size_madeCells]
      have HO : Hid (∀ v ∈ ds.map Value.string, v.oneCell' = true) := by intro v hv; obtain ⟨s, _, rfl⟩ := List.mem_map.1 hv; rfl
      go_wp2_with (refine wpList_copy_splice rfl (.tmp 55) (.tmp 56) 28 28 rfl 9 Yba.underlying28 (by kernel_rfl) _ _ _ _ _ _ rfl rfl wr.heap.size 0 (madeCells #[.string ByteArray.empty] lp).toList 9 HG.out (ds.map Value.string) HN.out HP.out HF.out HO.out wr.heap.size (wr.alloc (.cells (madeCells #[.string ByteArray.empty] lp) 9)) (Below.refl _ _) (Nat.le_refl _) ?_; intro w2 HG2 hB2)
      obtain ⟨hown2, hS2, hSz2, hz2, hnx2, hc2⟩ := after_copy lds hown hS hSz hnx HG2.out hB2
      clear HG HP HN HF HO HG2 hB2 hmk hown hS
      go_loop [11, 60] (fun want i => ∃ q : Nat, q ≤ lp ∧ i = .int .i64 q ∧ want = .bool (readyB (planTo ks dn k) (ds.take q))) (fun _ i => lp - (intOf i).toNat)
      case atStart => exact ⟨0, Nat.zero_le _, rfl, by simp [readyB]⟩
      case round =>
        obtain ⟨q, hq, rfl, rfl⟩ := hrel
        by_cases hql : q < lp
        · obtain ⟨s, hs⟩ : ∃ s, s = ds.getD q ByteArray.empty := ⟨_, rfl⟩
          have hcx : w2.cell? ⟨bp, op + q, none⟩ = some (.string s) := by rw [hs]; exact (hnx2.cell (hbp (by omega))).trans (hcp q hql)
          have hix := index_arg Yba.underlying28 size9 hap cp hql
          have HS : Hid (ds.take (q + 1) = ds.take q ++ [s]) := by
            rw [hs, List.take_succ_eq_append_getElem (by omega), List.getD, List.getElem?_eq_getElem (by omega)]; rfl
          clear hs
          go_wp2
          go_loop [14, 15, 16] (fun f c j => ∃ m : Nat, m ≤ k ∧ f = .bool false ∧ c = .bool false ∧ j = .int .i64 ((m : Int) - 1) ∧ planTo ks dn k s.data.toList = planTo ks dn m s.data.toList) (fun _ _ j => (intOf j + 1).toNat)
          case atStart => exact ⟨k, Nat.le_refl _, rfl, rfl, rfl, rfl⟩
          case round =>
            obtain ⟨m, hmk, rfl, rfl, rfl, hpl⟩ := hrel
            have HPL := hide hpl
            clear hpl
            by_cases hm0 : 0 < m
            · obtain ⟨n, rfl⟩ : ∃ n, m = n + 1 := ⟨m - 1, by omega⟩
              rw [show ((n + 1 : Nat) : Int) - 1 = (n : Int) from by omega]
              obtain ⟨s1, hs1⟩ : ∃ s1, s1 = ks.getD n ByteArray.empty := ⟨_, rfl⟩
              have hcy : w2.cell? ⟨bk, ok + n, none⟩ = some (.string s1) := by rw [hs1]; exact (hnx2.cell (hbk (by omega))).trans (hck n (by omega))
              have hiy := index_arg Yba.underlying28 size9 hak ck (i := n) (by omega)
              have HS1 := hide hs1
              clear hs1
              by_cases hnd : n < ld
              · have hnd' : (n : Int) < (ld : Int) := by omega
                have hcz : w2.cell? ⟨bd, od + n, none⟩ = some (.bool (flag dn n)) := (hnx2.cell (hbd (by omega))).trans (hcd n hnd)
                have hiz := index_arg Yba.underlying73 size4 had cd hnd
                go_wp2
                · have he : (s1.toList == s.toList) = true := by assumption
                  have hd : (!flag dn n) = true := by assumption
                  go_round
                  case rel => exact ⟨q + 1, by omega, by go_num, by rw [HS.out, ready_last (by rw [plan_hit HPL.out HS1.out he]; simpa using hd)]⟩
                  case measure => simp [intOf]; omega
                · have he : (s1.toList == s.toList) = true := by assumption
                  have hd : (!flag dn n) = false := by assumption
                  go_round
                  case rel => exact ⟨q + 1, by omega, by go_num, by rw [HS.out, ready_more (by rw [plan_hit HPL.out HS1.out he]; simpa using hd)]⟩
                  case measure => simp [intOf]; omega
                · have he : (s1.toList == s.toList) = false := by assumption
                  go_round
                  case rel => exact ⟨n, by omega, rfl, rfl, rfl, HPL.out.trans (plan_miss HS1.out he)⟩
                  case measure => simp [intOf]
              · have hdk : decide ((n : Int) < (ld : Int)) = false := decide_eq_false (by omega)
                have HFL : Hid (flag dn n = false) := by show _ = _; unfold flag; rw [List.getD, List.getElem?_eq_none (by omega)]; rfl
                go_wp2
                · have he : (s1.toList == s.toList) = true := by assumption
                  have hd : flag dn n = false := HFL.out
                  go_round
                  case rel => exact ⟨q + 1, by omega, by go_num, by rw [HS.out, ready_last (by rw [plan_hit HPL.out HS1.out he]; exact hd)]⟩
                  case measure => simp [intOf]; omega
                · have he : (s1.toList == s.toList) = false := by assumption
                  go_round
                  case rel => exact ⟨n, by omega, rfl, rfl, rfl, HPL.out.trans (plan_miss HS1.out he)⟩
                  case measure => simp [intOf]
            · obtain rfl : m = 0 := by omega
              have h0 : readyB (planTo ks dn k) (ds.take (q + 1)) = false := by
                rw [HS.out]; exact ready_last (by rw [doneB, planAt, HPL.out]; rfl)
              have H0 := hide h0
              clear h0
              go_wp2
              go_round
              case rel => exact ⟨q + 1, by omega, by go_num, by rw [H0.out]⟩
              case measure => simp [intOf]; omega
        · obtain rfl : q = lp := by omega
          go_wp2_with fail
          refine (ready_any (w.heap.size + 1) w.heap.size sz wr.heap.size q q (planTo ks dn k) ds true true w2 hS2 hown2 lds hp hc2 hds hSz2 hz2).mono ?_
          rintro e w3 ⟨rfl, hb3⟩
          go_wp2
          go_ret
          exact ⟨ret_bool (by rw [List.take_of_length_le (by omega)]; simp), hnx2.trans (hb3.mono hnx2.size)⟩

theorem bstr_long (ak ad ap : Option Addr) (lk ck ld cd lp cp : Nat) (w : World) (h : 1024 < lk ∨ 1024 < lp) :
    Calls Yba.prog 5 #[.slice ak lk ck, .slice ad ld cd, .slice ap lp cp] w fun e w' => e = .returned (.bool true) ∧ Below w.heap.size w w' := by
  by_cases h1 : 1024 < lk
  · have hd1 : decide ((1024 : Int) < (lk : Int)) = true := decide_eq_true (by omega)
    go_enter Yba.func5, Yba.ntmps5
    go_wp2
    go_ret
    exact ⟨rfl, Below.refl _ _⟩
  · have hd1 : decide ((1024 : Int) < (lk : Int)) = false := decide_eq_false (by omega)
    have hd2 : decide ((1024 : Int) < (lp : Int)) = true := decide_eq_true (by omega)
    go_enter Yba.func5, Yba.ntmps5
    go_wp2
    go_ret
    exact ⟨rfl, Below.refl _ _⟩
end Go.Proofs.Ybulkcstq
