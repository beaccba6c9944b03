/-
  OUR OWN. 'LawS4722BTable' (function 4): the walk.
-/
import Derived.Test.YbulkcstqReady
import Derived.Test.YbulkcstqBlk
import Derived.BigRegion
import Derived.BigQuiet
import Derived.Deep.QuietTactic
import Derived.RegionTactic
import Derived.Deep.OwnRows
import Derived.WalkSmall
namespace Go.Proofs.Ybulkcstq.BTab
open Go.RowKit Go.Maps Go.WideMaps Go.Proofs.Ybulkcstq

/-! ### plain -/
def nm (i : Nat) : ByteArray := ⟨#[116, UInt8.ofNat (48 + i)]⟩
abbrev namesC : Array Value := #[.string ⟨#[116, 48]⟩, .string ⟨#[116, 49]⟩, .string ⟨#[116, 50]⟩, .string ⟨#[116, 51]⟩, .string ⟨#[116, 52]⟩, .string ⟨#[116, 53]⟩, .string ⟨#[116, 54]⟩, .string ⟨#[116, 55]⟩]

theorem namesC_at (i : Nat) (h : i < 8) : namesC.toList[i]? = some (.string (nm i)) := by
  match i, h with
  | 0, _ => rfl
  | 1, _ => rfl
  | 2, _ => rfl
  | 3, _ => rfl
  | 4, _ => rfl
  | 5, _ => rfl
  | 6, _ => rfl
  | 7, _ => rfl
theorem nm_inj : ∀ i, i < 8 → ∀ j, j < 8 → (nm i).data.toList = (nm j).data.toList → i = j := by decide

def tab (pr co : Nat → Bool) : Nat → Plan
  | 0 => fun _ => none
  | k + 1 => fun l => if l = (nm k).data.toList ∧ pr k = true then some (true, .slice none 0 0, co k) else tab pr co k l
def cnt (pr : Nat → Bool) : Nat → Nat
  | 0 => 0
  | k + 1 => if pr k = true then cnt pr k + 1 else cnt pr k
theorem cnt_le (pr : Nat → Bool) : ∀ k, cnt pr k ≤ k
  | 0 => Nat.le_refl _
  | k + 1 => by have := cnt_le pr k; unfold cnt; split <;> omega

theorem tab_none (pr co : Nat → Bool) (j : Nat) (hj : j < 8) : ∀ k, k ≤ j → tab pr co k (nm j).data.toList = none
  | 0, _ => rfl
  | k + 1, h => by
    unfold tab
    rw [if_neg (fun e => by have := nm_inj j hj k (by omega) e.1; omega)]
    exact tab_none pr co j hj k (by omega)
theorem tab_at (pr co : Nat → Bool) (j : Nat) : ∀ k, k ≤ 8 → j < k → tab pr co k (nm j).data.toList = if pr j = true then some (true, .slice none 0 0, co j) else none
  | 0, _, h => absurd h (by omega)
  | k + 1, hk, h => by
    unfold tab
    by_cases e : j = k
    · subst e
      by_cases hp : pr j = true
      · simp [hp]
      · rw [if_neg (fun h' => hp h'.2), if_neg hp]
        exact tab_none pr co j (by omega) j (Nat.le_refl _)
    · rw [if_neg (fun h' => e (nm_inj j (by omega) k (by omega) h'.1))]
      exact tab_at pr co j k (by omega) (by omega)
theorem tab_done (pr co : Nat → Bool) (j : Nat) (hj : j < 8) : doneB (tab pr co 8) (nm j) = (pr j && co j) := by
  unfold doneB planAt
  rw [tab_at pr co j 8 (Nat.le_refl _) hj]
  cases pr j <;> simp

/-- Bit k of x, as the walk writes it. -/
def bitB (x : Int) (k : Nat) : Bool := bits BinOp.and IntKind.u8 (x / 2 ^ k) 1 == 1
theorem bit01 (y : Int) : bits BinOp.and IntKind.u8 y 1 = 0 ∨ bits BinOp.and IntKind.u8 y 1 = 1 := by
  have h : bits BinOp.and IntKind.u8 y 1 = IntKind.u8.wrap ((BitVec.ofInt 8 y &&& BitVec.ofInt 8 1).toNat : Nat) := rfl
  have h2 : (BitVec.ofInt 8 y &&& BitVec.ofInt 8 1).toNat = (BitVec.ofInt 8 y).toNat % 2 := by
    rw [BitVec.toNat_and, show (BitVec.ofInt 8 1).toNat = 1 from rfl, Nat.and_one_is_mod]
  rw [h, h2]
  rcases Nat.mod_two_eq_zero_or_one (BitVec.ofInt 8 y).toNat with e | e <;> rw [e] <;> decide
theorem bit_zero (x : Int) (k : Nat) : (bits BinOp.and IntKind.u8 (x / 2 ^ k) 1 == 0) = !bitB x k := by
  unfold bitB
  rcases bit01 (x / 2 ^ k) with e | e <;> rw [e] <;> decide

def depNames (ds : List Nat) : List ByteArray := ds.map fun d => nm (d % 8)
def wantB (pr co : Nat → Bool) (ds : List Nat) : Bool := ds.all fun d => pr (d % 8) && co (d % 8)
theorem want_ready (pr co : Nat → Bool) (ds : List Nat) : readyB (tab pr co 8) (depNames ds) = wantB pr co ds := by
  unfold readyB depNames wantB
  rw [List.all_map]
  congr 1
  funext d
  exact tab_done pr co (d % 8) (Nat.mod_lt _ (by omega))

theorem size5 : (sizeOf 5).run Yba.prog = fun w => .ok 1 w := by kernel_rfl

/-! ### the worlds -/
/-- The names block, the map's block, the swarm's block. -/
structure Has (w wr : World) (sz : Nat) (g : Plan) : Prop where
  map : HasMap wr Yba.prog 9 Lit.string (w.heap.size + 1 + 1) sz (planV g)
  swarm : wr.cell? ⟨w.heap.size + 1 + 1 + 1, 3, none⟩ = some (.map (some (w.heap.size + 1 + 1)))
  names : ∀ i, i < 8 → wr.cell? ⟨w.heap.size + 1, i, none⟩ = some (.string (nm i))
  size : w.heap.size + 1 + 1 + 1 < wr.heap.size
  below : Below w.heap.size w wr

theorem Has.later {w wr w' : World} {sz : Nat} {g : Plan} (h : Has w wr sz g) (hb : Below (w.heap.size + 1 + 1 + 1 + 1) wr w') : Has w w' sz g :=
  ⟨h.map.below hb (by omega), (hb.cell (p := ⟨w.heap.size + 1 + 1 + 1, 3, none⟩) (by show w.heap.size + 1 + 1 + 1 < _; omega)).trans h.swarm, fun i hi => (hb.cell (p := ⟨w.heap.size + 1, i, none⟩) (by show w.heap.size + 1 < _; omega)).trans (h.names i hi), Nat.lt_of_lt_of_le h.size hb.size, h.below.trans (hb.mono (by omega))⟩

theorem Has.start (w : World) (sw : Array Value) (h3 : sw[3]? = some (.map (some (w.heap.size + 1 + 1)))) (pr co : Nat → Bool) : Has w ((((w.alloc (.cells namesC 68)).alloc (.cells namesC 68)).alloc (.map #[] 0)).alloc (.cells sw 51)) 0 (tab pr co 0) := by
  have e1 : ((w.alloc (.cells namesC 68)).alloc (.cells namesC 68)).heap.size = w.heap.size + 1 + 1 := by simp
  have e2 : (((w.alloc (.cells namesC 68)).alloc (.cells namesC 68)).alloc (.map #[] 0)).heap.size = w.heap.size + 1 + 1 + 1 := by simp
  refine ⟨?_, ?_, fun i hi => ?_, by simp, ?_⟩
  · have := ((HasMap.made ((w.alloc (.cells namesC 68)).alloc (.cells namesC 68)) Yba.prog 9 Lit.string).alloc (.cells sw 51))
    rw [e1] at this
    exact this.congr fun l => rfl
  · have := (Blk.made (((w.alloc (.cells namesC 68)).alloc (.cells namesC 68)).alloc (.map #[] 0)) sw 51).cell (i := 3) (by simpa using h3)
    rw [e2] at this
    exact this
  · have := (((Blk.made (w.alloc (.cells namesC 68)) namesC 68).alloc (.map #[] 0)).alloc (.cells sw 51)).cell (namesC_at i hi)
    simpa using this
  · exact ((((Below.refl _ _).alloc (Nat.le_refl _) _).alloc (by simp) _).alloc (by simp; omega) _).alloc (by simp; omega) _

theorem Has.stored {w wr w1 : World} {sz sz' : Nat} {g g' : Plan} (h : Has w wr sz g) (hm : HasMap w1 Yba.prog 9 Lit.string (w.heap.size + 1 + 1) sz' (planV g')) (ht : wr.drew.mapTurned w1 (w.heap.size + 1 + 1)) : Has w w1 sz' g' := by
  have hg := ht.grown
  have hz : wr.heap.size ≤ w1.heap.size := hg.size
  have hs := h.size
  have blk : ∀ b, b < wr.heap.size → b ≠ w.heap.size + 1 + 1 → w1.heap[b]? = wr.heap[b]? := fun b h1 h2 => hg.block b h1 (fun e => h2 (by simpa using e))
  refine ⟨hm, (World.cell?_of_block (w := wr) (blk _ hs (by show w.heap.size + 1 + 1 + 1 ≠ _; omega))).trans h.swarm, fun i hi => (World.cell?_of_block (w := wr) (blk _ (by show w.heap.size + 1 < _; omega) (by show w.heap.size + 1 ≠ _; omega))).trans (h.names i hi), by omega, ?_⟩
  exact h.below.drew.grown hg h.below.size (fun j hj => by cases hj; omega)

theorem tab_step {w1 : World} {b : Nat} {pr co : Nat → Bool} {k : Nat} {c : Bool} (hk : k < 8) (hp : pr k = true) (hc : c = co k)
    (h : HasMap w1 Yba.prog 9 Lit.string b (if (planV (tab pr co k) (nm k).data.toList).isSome then cnt pr k else cnt pr k + 1) (fun l => if l = (nm k).data.toList then some (subV true (.slice none 0 0) c) else planV (tab pr co k) l)) :
    HasMap w1 Yba.prog 9 Lit.string b (cnt pr (k + 1)) (planV (tab pr co (k + 1))) := by
  have e0 : tab pr co k (nm k).data.toList = none := tab_none pr co k hk k (Nat.le_refl _)
  have e1 : (planV (tab pr co k) (nm k).data.toList).isSome = false := by simp [planV, e0]
  rw [e1] at h
  have e2 : cnt pr (k + 1) = cnt pr k + 1 := by simp [cnt, hp]
  rw [e2]
  refine h.congr fun l => ?_
  subst hc
  unfold planV
  simp only [tab, hp, and_true]
  split <;> rfl
theorem tab_skip {w wr : World} {pr co : Nat → Bool} {k : Nat} (hp : pr k = false) (h : Has w wr (cnt pr k) (tab pr co k)) : Has w wr (cnt pr (k + 1)) (tab pr co (k + 1)) := by
  have e1 : cnt pr (k + 1) = cnt pr k := by simp [cnt, hp]
  have e2 : tab pr co (k + 1) = tab pr co k := by funext l; simp [tab, hp]
  rw [e1, e2]; exact h

set_option maxRecDepth 100000 in
theorem names_any (w : World) : Calls Yba.prog 10 #[] w fun e w' => e = .returned (.agg namesC) ∧ w' = w.alloc (.cells namesC 68) := by
  go_enter Yba.func10, Yba.ntmps10
  go_wp2
  exact bodyPost_ret (v := .agg namesC) (by simp [results, Yba.results10, go_sem]) rfl ⟨rfl, rfl⟩

theorem fill_step {ds : List Nat} {L : List Value} {k n : Nat} (h : ∀ j, j < k → L[j]? = some (.string (nm (ds.getD j 0 % 8)))) (hn : n = ds.getD k 0) (hk : k < L.length) :
    ∀ j, j < k + 1 → (L.set k (.string (nm (n % 8))))[j]? = some (.string (nm (ds.getD j 0 % 8))) := by
  intro j hj
  by_cases e : j = k
  · subst e
    rw [List.getElem?_set_self hk, hn]
  · rw [List.getElem?_set_ne (fun h => e h.symm)]
    exact h j (by omega)
theorem fill_all {ds : List Nat} {L : List Value} {k : Nat} (lds : ds.length = k) (hL : L.length = k) (h : ∀ j, j < k → L[j]? = some (.string (nm (ds.getD j 0 % 8)))) : L = (depNames ds).map Value.string := by
  apply List.ext_getElem?
  intro i
  by_cases hi : i < k
  · rw [h i hi]
    simp [depNames, List.getElem?_eq_getElem (show i < ds.length by omega)]
  · rw [List.getElem?_eq_none (by omega), List.getElem?_eq_none (by simp [depNames]; omega)]

theorem want_last {pr co : Nat → Bool} {l : List Nat} {n : Nat} (h : (pr (n % 8) && co (n % 8)) = false) : wantB pr co (l ++ [n]) = false := by
  unfold wantB
  rw [List.all_append]
  simp [h]
theorem want_more {pr co : Nat → Bool} {l : List Nat} {n : Nat} (h : (pr (n % 8) && co (n % 8)) = true) : wantB pr co (l ++ [n]) = wantB pr co l := by
  unfold wantB
  rw [List.all_append]
  simp [h]
theorem dep_cells {wr : World} {b : Nat} {ds : List Nat} {k : Nat} (lds : ds.length = k) (h : Blk wr b 9 ((depNames ds).map Value.string)) : ∀ i, i < k → wr.cell? ⟨b, i, none⟩ = some (.string ((depNames ds).getD i ByteArray.empty)) := by
  intro i hi
  refine h.cell ?_
  rw [List.getElem?_map, List.getD, List.getElem?_eq_getElem (by simp [depNames]; omega)]
  rfl
theorem dep_sizes (ds : List Nat) : ∀ s ∈ depNames ds, s.size ≤ maxLen := by
  intro s hs
  obtain ⟨d, _, rfl⟩ := List.mem_map.1 hs
  show 2 ≤ maxLen
  decide

set_option maxRecDepth 100000 in
set_option maxHeartbeats 1000000 in
theorem walk (pr co : Int) (ap : Option Addr) (lp cp bp op : Nat) (ds : List Nat) (w : World) (_hpr0 : 0 ≤ pr) (_hpr : pr ≤ 255) (_hco0 : 0 ≤ co) (_hco : co ≤ 255)
    (hap : 0 < lp → ap = some ⟨bp, op, none⟩) (lds : ds.length = lp) (hds : ∀ d ∈ ds, d ≤ 255) (hcp : ∀ i, i < lp → w.cell? ⟨bp, op + i, none⟩ = some (.int .u8 (ds.getD i 0 : Nat)))
    (hbp : 0 < lp → bp < w.heap.size) (hp : lp ≤ 1024) :
    Calls Yba.prog 4 #[.int .u8 pr, .int .u8 co, .slice ap lp cp] w fun e w' => e = .returned (.bool true) ∧ Below w.heap.size w w' := by
  have hmm := @run_makeMap Yba.prog
  have hd2 : decide ((1024 : Int) < (lp : Int)) = false := decide_eq_false (by omega)
  go_enter Yba.func4, Yba.ntmps4
  go_wp2_with (go_at_call 10; refine (names_any _).mono ?_; rintro e w' ⟨rfl, rfl⟩)
  go_loopw [9, 10] (fun c i wr => ∃ k : Nat, k ≤ 8 ∧ i = .int .i64 k ∧ c = .int .i64 (cnt (bitB pr) k) ∧ Has w wr (cnt (bitB pr) k) (tab (bitB pr) (bitB co) k)) (fun _ i _ => 8 - (intOf i).toNat)
  case atStart => exact ⟨0, Nat.zero_le _, rfl, rfl, Has.start w _ rfl _ _⟩
  case round =>
    obtain ⟨k, hk, rfl, rfl, hH⟩ := hrel
    have hcl := cnt_le (bitB pr) k
    by_cases hlt : k < 8
    · have hS := hH.swarm
      have hN := hH.names k hlt
      by_cases hb : (bits BinOp.and IntKind.u8 (pr / 2 ^ k) 1 == 1) = true
      · have hkey : keyOf Yba.prog 9 (.string (nm k)) = some (.string (nm k).data.toList) := keyOf_string_mk Yba.underlying9 (by show 2 ≤ maxLen; decide)
        obtain ⟨w1, hrun, hown1, hturn⟩ := hH.map.drew.store law9 Yba.underlying27 (by unfold maxLen; omega) string_inj (val := subV true (.slice none 0 0) (bits BinOp.and IntKind.u8 (co / 2 ^ k) 1 == 1)) hkey
        have HR : Hid (cnt (bitB pr) (k + 1) = cnt (bitB pr) k + 1) := by show _ = _; simp [cnt, bitB, hb]
        go_wp2
        go_region
        go_wp2
        go_roundw
        case rel => exact ⟨k + 1, by omega, by go_num, by rw [HR.out]; go_num, hH.stored (tab_step hlt hb rfl hown1) hturn⟩
        case measure => simp [intOf]; omega
      · have hb' : (bits BinOp.and IntKind.u8 (pr / 2 ^ k) 1 == 1) = false := by simpa using hb
        have HR : Hid (cnt (bitB pr) (k + 1) = cnt (bitB pr) k) := by show _ = _; simp [cnt, bitB, hb']
        go_wp2
        go_roundw
        case rel => exact ⟨k + 1, by omega, by go_num, by rw [HR.out], tab_skip hb' hH⟩
        case measure => simp [intOf]; omega
    · obtain rfl : k = 8 := by omega
      have hmk := fun w => run_make_row' (P := Yba.prog) 28 9 (.string ByteArray.empty) 16 Yba.underlying28 (by kernel_rfl) rfl .i64 .i64 lp (by omega) (by omega) w
      go_wp2
      obtain ⟨wo, hwo⟩ : ∃ wo : World, wo = wr := ⟨_, rfl⟩
      subst hwo
      go_loopw [59] (fun i wr => ∃ (k : Nat) (L : List Value), k ≤ lp ∧ i = .int .i64 k ∧ Blk wr wo.heap.size 9 L ∧ L.length = lp ∧ (∀ j, j < k → L[j]? = some (.string (nm (ds.getD j 0 % 8)))) ∧ Below wo.heap.size wo wr) (fun i _ => lp - (intOf i).toNat)
      case atStart => exact ⟨0, _, Nat.zero_le _, rfl, Blk.made _ _ _, by simp [size_madeCells], fun j hj => absurd hj (by omega), (Below.refl _ _).alloc (Nat.le_refl _) _⟩
      case round =>
        obtain ⟨k, L, hk, rfl, hB, hL, hLj, hnx⟩ := hrel
        have hHr := hH.later (hnx.mono hH.size)
        by_cases hlt : k < lp
        · obtain ⟨n, hn⟩ : ∃ n, n = ds.getD k 0 := ⟨_, rfl⟩
          have hn255 : n ≤ 255 := by rw [hn, List.getD, List.getElem?_eq_getElem (by omega)]; exact hds _ (List.getElem_mem _)
          have hcx : wr.cell? ⟨bp, op + k, none⟩ = some (.int .u8 (n : Int)) := by rw [hn]; exact (hHr.below.cell (hbp (by omega))).trans (hcp k hlt)
          have hix := index_slice Yba.underlying24 size5 hap cp hlt
          have hN := hHr.names (n % 8) (Nat.mod_lt _ (by omega))
          have hcy := hB.cell (i := k) (List.getElem?_eq_getElem (by omega))
          have hfy := hB.free k
          have HN := hide hn
          clear hn
          go_wp2
          go_roundw
          case rel => exact ⟨k + 1, L.set k (.string (nm (n % 8))), by omega, by go_num, hB.set _ _, by simpa using hL, fill_step hLj HN.out (by omega), hnx.setCell (by exact Nat.le_refl _) _⟩
          case measure => simp [intOf]; omega
        · obtain rfl : k = lp := by omega
          have hLs : L = (depNames ds).map Value.string := fill_all lds hL hLj
          have HL := hide hLs
          clear hLs hLj hmk hmm
          go_wp2
          go_loop [14, 75] (fun want i => ∃ q : Nat, q ≤ k ∧ i = .int .i64 q ∧ want = .bool (wantB (bitB pr) (bitB co) (ds.take q))) (fun _ i => k - (intOf i).toNat)
          case atStart => exact ⟨0, Nat.zero_le _, rfl, by simp [wantB]⟩
          case round =>
            obtain ⟨q, hq, rfl, rfl⟩ := hrel
            by_cases hql : q < k
            · obtain ⟨n, hn⟩ : ∃ n, n = ds.getD q 0 := ⟨_, rfl⟩
              have hn255 : n ≤ 255 := by rw [hn, List.getD, List.getElem?_eq_getElem (by omega)]; exact hds _ (List.getElem_mem _)
              have hcx : wr.cell? ⟨bp, op + q, none⟩ = some (.int .u8 (n : Int)) := by rw [hn]; exact (hHr.below.cell (hbp (by omega))).trans (hcp q hql)
              have hix := index_slice Yba.underlying24 size5 hap cp hql
              have HS : Hid (ds.take (q + 1) = ds.take q ++ [n]) := by
                rw [hn, List.take_succ_eq_append_getElem (by omega), List.getD, List.getElem?_eq_getElem (by omega)]; rfl
              clear hn
              have HZ1 := hide (bit_zero pr (n % 8))
              have HZ2 := hide (bit_zero co (n % 8))
              cases h1 : (bits BinOp.and IntKind.u8 (pr / 2 ^ (n % 8)) 1 == 0) with
              | true =>
                go_wp2
                go_round
                case rel => exact ⟨q + 1, by omega, by go_num, by rw [HS.out, want_last (by rw [HZ1.out] at h1; simp at h1; simp [h1])]⟩
                case measure => simp [intOf]; omega
              | false =>
                cases h2 : (bits BinOp.and IntKind.u8 (co / 2 ^ (n % 8)) 1 == 0) with
                | true =>
                  go_wp2
                  go_round
                  case rel => exact ⟨q + 1, by omega, by go_num, by rw [HS.out, want_last (by rw [HZ2.out] at h2; simp at h2; simp [h2])]⟩
                  case measure => simp [intOf]; omega
                | false =>
                  go_wp2
                  go_round
                  case rel => exact ⟨q + 1, by omega, by go_num, by rw [HS.out, want_more (by rw [HZ1.out] at h1; rw [HZ2.out] at h2; simp at h1 h2; simp [h1, h2])]⟩
                  case measure => simp [intOf]; omega
            · obtain rfl : q = k := by omega
              have hcr := ready_any (w.heap.size + 1 + 1 + 1) (w.heap.size + 1 + 1) (cnt (bitB pr) 8) wo.heap.size q q (tab (bitB pr) (bitB co) 8) (depNames ds) false false wr hHr.swarm hHr.map (by simpa [depNames] using lds) hp (dep_cells lds (HL.out ▸ hB)) (dep_sizes ds) hHr.size hB.lt
              rw [want_ready, ← List.take_of_length_le (l := ds) (i := q) (by omega)] at hcr
              have HC := hide hcr
              clear hcr
              go_wp2_with fail
              refine HC.out.mono ?_
              rintro e w3 ⟨rfl, hb3⟩
              have hH3 := hHr.later (hb3.mono hHr.size)
              have hB3 := hB.below hb3 hB.lt
              have hln := fun ty => hH3.map.len Yba.underlying27 ty
              have hS3 := hH3.swarm
              clear HC
              go_wp2
              obtain ⟨wp, hwp⟩ : ∃ wp : World, wp = wr := ⟨_, rfl⟩
              subst hwp
              go_loopw [113] (fun i wr => ∃ m : Nat, m ≤ q ∧ i = .int .i64 m ∧ Below w3.heap.size w3 wr) (fun i _ => q - (intOf i).toNat)
              case atStart => exact ⟨0, Nat.zero_le _, rfl, Below.refl _ _⟩
              case round =>
                obtain ⟨m, hm, rfl, hnx4⟩ := hrel
                have hH4 := hH3.later (hnx4.mono hH3.size)
                clear hln hS3
                by_cases hml : m < q
                · obtain ⟨n, hn⟩ : ∃ n, n = ds.getD m 0 := ⟨_, rfl⟩
                  have hn255 : n ≤ 255 := by rw [hn, List.getD, List.getElem?_eq_getElem (by omega)]; exact hds _ (List.getElem_mem _)
                  have hcx : wr.cell? ⟨bp, op + m, none⟩ = some (.int .u8 (n : Int)) := by rw [hn]; exact (hH4.below.cell (hbp (by omega))).trans (hcp m hml)
                  have hix := index_slice Yba.underlying24 size5 hap cp hml
                  have hN := hH4.names (n % 8) (Nat.mod_lt _ (by omega))
                  have hcy : wr.cell? ⟨wo.heap.size, m, none⟩ = some (.string (nm (n % 8))) := by
                    rw [dep_cells lds (HL.out ▸ hB3.below hnx4 hB3.lt) m hml, hn]
                    simp [depNames, List.getElem?_eq_getElem (show m < ds.length by omega)]
                  have hm' : (m : Int) < (q : Int) := by omega
                  clear hn
                  go_wp2
                  go_quiet (fail)
                  go_wp2
                  go_roundw
                  case rel => exact ⟨m + 1, by omega, by go_num, below_drewN hnx4 _⟩
                  case measure => simp [intOf]; omega
                · go_wp2
                  go_ret
                  exact ⟨rfl, hH4.below⟩

theorem walk_long (pr co : Int) (ap : Option Addr) (lp cp : Nat) (w : World) (h : 1024 < lp) :
    Calls Yba.prog 4 #[.int .u8 pr, .int .u8 co, .slice ap lp cp] w fun e w' => e = .returned (.bool true) ∧ Below w.heap.size w w' := by
  have hd1 : decide ((1024 : Int) < (lp : Int)) = true := decide_eq_true (by omega)
  go_enter Yba.func4, Yba.ntmps4
  go_wp2
  go_ret
  exact ⟨rfl, Below.refl _ _⟩
end Go.Proofs.Ybulkcstq.BTab
