/-
  OUR OWN. 'dependentsOf' (function 12).
-/
import Derived.Test.YbulkcstqIds
namespace Go.Proofs.Ybulkcstq
open Go.RowKit Go.Maps Go.WideMaps

theorem info9 : (Yba.prog.info? 9).map (fun i => (i.zero, i.size, i.bytes)) = some (some (.string ByteArray.empty), 1, 16) := by kernel_rfl
theorem zero28 (w : World) : (zeroValue 28).run Yba.prog w = .ok (.slice none 0 0) w := by kernel_rfl

/-- The subtasks in the plan, by number. -/
def subH (n : Nat) (inP co : Nat → Bool) (dv : Nat → Value) (i : Nat) : Option Value := if i < n then some (subV (inP i) (dv i) (co i)) else none
structure SubOk (w : World) (sb n : Nat) (inP co : Nat → Bool) (dv : Nat → Value) (dl : Nat → List Nat) : Prop where
  map : HasMap w Yba.prog 9 Lit.string sb n (onId (subH n inP co dv))
  rows : ∀ i, i < n → w.ownsRow 0 9 1 (dv i) (dl i).length ((dl i).map sV)
  small : ∀ i, i < n → ∀ d ∈ dl i, d < 9
  len : ∀ i, i < n → (dl i).length ≤ 1024
  n8 : n ≤ 8
/-- Is u in the plan, and there? -/
def pIn (n : Nat) (inP : Nat → Bool) (u : Nat) : Bool := decide (u < n) && inP u
theorem subH_at (n : Nat) (inP co : Nat → Bool) (dv : Nat → Value) {d : Nat} (hd : d < 9) : ∃ ds c, (onId (subH n inP co dv) (idl d)).getD (subV false (.slice none 0 0) false) = subV (pIn n inP d) ds c ∧ c = (decide (d < n) && co d) := by
  rw [onId_at _ hd, subH]
  by_cases h : d < n
  · exact ⟨dv d, co d, by simp [h, pIn], by simp [h]⟩
  · exact ⟨_, false, by simp [h, pIn]; rfl, by simp [h]⟩

def depH (rv : Nat → Value) (dep : Nat → List Nat) (u : Nat) : Option Value := if dep u = [] then none else some (rv u)

/-- What 'dependentsOf' has made. -/
structure Deps (w : World) (db base sz N : Nat) (rv : Nat → Value) (dep : Nat → List Nat) : Prop where
  map : HasMap w Yba.prog 9 Lit.string db sz (onId (depH rv dep))
  rows : Rows9 w base rv dep
  nil : ∀ u, u < 9 → dep u = [] → rv u = .slice none 0 0
  len : ∀ u, u < 9 → (dep u).length ≤ N
  szN : sz ≤ N
  lt : db < base
section
variable {w w1 w2 : World} {db base sz N : Nat} {rv : Nat → Value} {dep : Nat → List Nat}
theorem Deps.look (h : Deps w db base sz N rv dep) {u : Nat} (hu : u < 9) : (onId (depH rv dep) (idl u)).getD (.slice none 0 0) = rv u := by
  rw [onId_at _ hu, depH]
  by_cases e : dep u = []
  · rw [if_pos e, h.nil u hu e]; rfl
  · rw [if_neg e]; rfl
theorem Deps.below (h : Deps w db base sz N rv dep) (hb : Below w.heap.size w w1) : Deps w1 db base sz N rv dep := ⟨h.map.below hb h.map.lt, h.rows.below hb, h.nil, h.len, h.szN, h.lt⟩
theorem Deps.kept {r : Nat} (h : Deps w db base sz N rv dep) (hg : w.grownBy w1 (some r)) (hr : r < base) (hrd : r ≠ db) : Deps w1 db base sz N rv dep :=
  ⟨h.map.grown hg (by intro e; exact hrd (Option.some.inj e).symm), h.rows.kept hg (fun u hu => by
    cases hv : (rv u).ownBlock with
    | none => exact .inl rfl
    | some g => exact .inr fun e => by have := ((h.rows.own u hu).lt g hv).1; cases e; omega), h.nil, h.len, h.szN, h.lt⟩
theorem Deps.more (h : Deps w db base sz N rv dep) {N' : Nat} (hN : N ≤ N') : Deps w db base sz N' rv dep := ⟨h.map, h.rows, h.nil, fun u hu => Nat.le_trans (h.len u hu) hN, Nat.le_trans h.szN hN, h.lt⟩
/-- Behind 'dependents[u] = append(dependents[u], x)'. -/
theorem Deps.push {u g cap H x sz' : Nat} {O : Obj} (h : Deps w db base sz N rv dep) (hu : u < 9)
    (hown : w1.ownsRow base 9 1 (.slice (some ⟨g, 0, none⟩) ((dep u).length + 1) cap) ((dep u).length + 1) ((dep u).map sV ++ [sV x])) (hg : (w.alloc O).grownBy w1 (rv u).ownBlock) (hat : (rv u).ownBlock = some g ∨ g = H) (hH : (w.alloc O).heap.size ≤ H)
    (hM : HasMap w2 Yba.prog 9 Lit.string db sz' (fun l => if l = idl u then some (.slice (some ⟨g, 0, none⟩) ((dep u).length + 1) cap) else onId (depH rv dep) l)) (hs : sz' ≤ sz + 1) (ht : w1.mapTurned w2 db) :
    Deps w2 db base sz' (N + 1) (fun j => if j = u then .slice (some ⟨g, 0, none⟩) ((dep u).length + 1) cap else rv j) (fun j => if j = u then dep u ++ [x] else dep j) := by
  have hR := (h.rows.alloc O).push hu hown hg hat hH
  refine ⟨?_, hR.kept ht.grown (fun j hj => ?_), fun j hj e => ?_, fun j hj => ?_, Nat.le_trans hs (Nat.succ_le_succ h.szN), h.lt⟩
  · refine hM.congr (fun l => ?_)
    rw [onId_upd _ _ hu]
    congr 1
    funext j
    unfold depH
    by_cases e : j = u
    · simp [e]
    · simp [e]
  · cases hv : (if j = u then Value.slice (some ⟨g, 0, none⟩) ((dep u).length + 1) cap else rv j).ownBlock with
    | none => exact .inl rfl
    | some b =>
      refine .inr fun e => ?_
      have := ((hR.own j hj).lt b hv).1
      have := h.lt
      cases e
      omega
  · by_cases e2 : j = u
    · simp [e2] at e
    · simp only [if_neg e2] at e ⊢; exact h.nil j hj e
  · by_cases e2 : j = u
    · subst e2; simp only [if_true, List.length_append, List.length_singleton]; exact Nat.succ_le_succ (h.len j hj)
    · simp only [if_neg e2]; exact Nat.le_succ_of_le (h.len j hj)
theorem Deps.prep {x u : Nat} (h : Deps w db base sz N rv dep) (hu : u < 9) :
    Hid ((w.alloc (.cells #[sV x] 9)).ownsRow base 9 1 (rv u) (dep u).length ((dep u).map sV)) ∧ Hid (∀ j v, [sV x][j]? = some v → (w.alloc (.cells #[sV x] 9)).cell? ((⟨w.heap.size, 0, none⟩ : Addr).add j) = some v) ∧ Hid (∀ v ∈ [sV x], v.oneCell' = true) ∧
    Hid (∀ w1 : World, (w.alloc (.cells #[sV x] 9)).grownBy w1 (rv u).ownBlock → HasMap w1 Yba.prog 9 Lit.string db sz (onId (depH rv dep))) := by
  refine ⟨(h.rows.own u hu).alloc _, World.news_of_block (Blk.made w _ 9), ?_, fun w1 hg => ?_⟩
  · intro v hv; simp at hv; subst hv; rfl
  · refine (h.map.alloc _).grown hg ?_
    intro e
    have := ((h.rows.own u hu).lt db e.symm).1
    have := h.lt
    omega
end

theorem sameKey_self (i : Nat) : (Lit.string (idl i)).sameKey (.string (idl i)) = true := by simp [Lit.sameKey]
theorem sameKey_ne {x i : Nat} (hx : x < 9) (hi : i < 9) (h : x ≠ i) : (Lit.string (idl x)).sameKey (.string (idl i)) = false := by
  have : idl x ≠ idl i := fun e => h (idl_inj hx hi e)
  simp [Lit.sameKey, this]
/-- The range's state inside a round. -/
structure IS (w wq : World) (sb n : Nat) (D : DataW Value) (left : Lit → Bool) (cnt sz N : Nat) (rv : Nat → Value) (dep : Nat → List Nat) : Prop where
  rg : wq.ranges Yba.prog 9 RV sb (w.heap.size + 1) n D left cnt
  deps : Deps wq w.heap.size (w.heap.size + 2) sz N rv dep
  below : Below w.heap.size w wq
  size : w.heap.size + 2 ≤ wq.heap.size
theorem IS.push {w wq w1 w2 : World} {sb n cnt sz N u g cap H x sz' : Nat} {D : DataW Value} {left : Lit → Bool} {rv : Nat → Value} {dep : Nat → List Nat} {O : Obj} (h : IS w wq sb n D left cnt sz N rv dep) (hsb : sb < w.heap.size) (hu : u < 9)
    (hown : w1.ownsRow (w.heap.size + 2) 9 1 (.slice (some ⟨g, 0, none⟩) ((dep u).length + 1) cap) ((dep u).length + 1) ((dep u).map sV ++ [sV x])) (hg : (wq.alloc O).grownBy w1 (rv u).ownBlock) (hat : (rv u).ownBlock = some g ∨ g = H) (hH : (wq.alloc O).heap.size ≤ H)
    (hM : HasMap w2 Yba.prog 9 Lit.string w.heap.size sz' (fun l => if l = idl u then some (.slice (some ⟨g, 0, none⟩) ((dep u).length + 1) cap) else onId (depH rv dep) l)) (hs : sz' ≤ sz + 1) (ht : w1.mapTurned w2 w.heap.size) :
    IS w w2 sb n D left cnt sz' (N + 1) (fun j => if j = u then .slice (some ⟨g, 0, none⟩) ((dep u).length + 1) cap else rv j) (fun j => if j = u then dep u ++ [x] else dep j) := by
  have hrow : ∀ k, (rv u).ownBlock = some k → w.heap.size + 2 ≤ k := fun k hk => ((h.deps.rows.own u hu).lt k hk).1
  refine ⟨((h.rg.alloc O).kept hg (fun e => ?_) (fun e => ?_)).kept ht.grown (by intro e; cases e; omega) (by intro e; have := Option.some.inj e; omega), h.deps.push hu hown hg hat hH hM hs ht, ?_, ?_⟩
  · have := hrow sb e.symm; omega
  · have := hrow _ e.symm; omega
  · have h1 := h.size
    refine ((h.below.alloc (by omega) O).grown hg (by simp; omega) (fun k hk => by have := hrow k hk; omega)).grown ht.grown ?_ (fun k hk => by cases hk; omega)
    have := hg.size
    simp at this
    omega
  · have h1 := h.size
    have h2 := hg.size
    have h3 := ht.grown.size
    simp at h2
    omega
theorem IS.map {w wq : World} {sb n cnt sz N : Nat} {D : DataW Value} {left : Lit → Bool} {rv : Nat → Value} {dep : Nat → List Nat} {f : List UInt8 → Option Value} (h : IS w wq sb n D left cnt sz N rv dep) (h1 : Go.Maps.size D = n) (h2 : ∀ l, has D (.string l) = (f l).isSome) (h3 : ∀ l z, D.atKey (.string l) (.held z) = .held ((f l).getD z)) : HasMap wq Yba.prog 9 Lit.string sb n f :=
  ⟨D, h.rg.owns, h1, h2, h3⟩
theorem ownsRow_slice {w : World} {base : Nat} {e : TypeId} {size : Nat} {v : Value} {n : Nat} {xs : List Value} (h : w.ownsRow base e size v n xs) : ∃ (a : Option Addr) (c : Nat), v = .slice a n c ∧ n ≤ c ∧ ∀ g, v.ownBlock = some g → a = some ⟨g, 0, none⟩ := by
  rcases h.2 with ⟨rfl, rfl⟩ | ⟨g', cap, cur, rfl, _, _, hn, _⟩
  · exact ⟨none, 0, rfl, Nat.le_refl _, fun g hg => by simp [Value.ownBlock] at hg⟩
  · refine ⟨some ⟨g', 0, none⟩, cap, rfl, hn, fun g hg => ?_⟩
    simp [Value.ownBlock] at hg
    subst hg; rfl
theorem keyOf_string_inv {key : Value} {kl : Lit} (h : keyOf Yba.prog 9 key = some kl) : ∃ x, key = .string x := by
  rw [keyOf_string Yba.underlying9] at h
  cases key <;> simp [mapKey, Yba.underlying9] at h
  exact ⟨_, rfl⟩

set_option maxRecDepth 100000 in
set_option maxHeartbeats 2000000 in
theorem deps_walk (sb n : Nat) (inP co : Nat → Bool) (dv : Nat → Value) (dl : Nat → List Nat) (w : World) (hS : SubOk w sb n inP co dv dl) :
    Calls Yba.prog 12 #[.map (some sb)] w fun e w' => ∃ db base sz N rv dep, e = .returned (.map (some db)) ∧ w.heap.size ≤ db ∧ N ≤ 8192 ∧ Deps w' db base sz N rv dep ∧ Below w.heap.size w w' ∧ ∀ u, u < 9 → ∀ x, x ∈ dep u ↔ x < n ∧ pIn n inP u = true ∧ u ∈ dl x := by
  have hmk := @run_makeMap Yba.prog
  obtain ⟨D, hown, hsz, hhas, hat⟩ := hS.map
  have hbl := hS.map.lt
  have HS := hide hS
  have hown1 := (show World.ownsMap (w.alloc (.map #[] 0)) Yba.prog 9 RV sb n D from by
    obtain ⟨es, clock, hb, r⟩ := hown
    exact ⟨es, clock, (Below.heap_alloc _ _ _ hbl).trans hb, r⟩)
  clear hS hown
  go_enter Yba.func12, Yba.ntmps12
  go_wp2_with (first | (at_range; refine wpList_range_own _ rfl _ 27 rfl 9 40 law9 Yba.underlying27 _ sb n D rfl hown1 ?_; intro w0 hrg0 hg0 hs0))
  go_frame
  have e1 : (w.alloc (Obj.map #[] 0)).heap.size = w.heap.size + 1 := by simp
  rw [e1] at hrg0 hs0 ⊢
  have hD0 : Deps w0 w.heap.size (w.heap.size + 2) 0 0 (fun _ => .slice none 0 0) (fun _ => []) := by
    refine ⟨?_, Rows9.start _ _, fun _ _ _ => rfl, fun _ _ => Nat.le_refl _, Nat.le_refl _, by omega⟩
    refine ((HasMap.made w Yba.prog 9 Lit.string).grown hg0 (by simp)).congr (fun l => ?_)
    have : depH (fun _ => Value.slice none 0 0) (fun _ => ([] : List Nat)) = fun _ => none := by funext u; simp [depH]
    rw [this]
    have : ∀ k, onIdK (fun _ => none) k l = none := by
      intro k
      induction k with
      | zero => rfl
      | succ k ih => rw [onIdK, ih]; split <;> rfl
    exact (this 9).symm
  have hB0 : Below w.heap.size w w0 := ((Below.refl _ w).alloc (Nat.le_refl _) (.map #[] 0)).grown hg0 (by simp) (by simp)
  have HSZ := hide hsz
  have HHAS := hide hhas
  have HAT := hide hat
  have HW0 := hide hs0
  clear hsz hhas hat hmk hown1 hg0 hs0
  go_loopw [4] (fun _ wr => ∃ (left : Lit → Bool) (cnt sz : Nat) (rv : Nat → Value) (dep : Nat → List Nat), wr.ranges Yba.prog 9 RV sb (w.heap.size + 1) n D left cnt ∧ (∀ kl, left kl = true → has D kl = true) ∧ cnt ≤ n ∧ Deps wr w.heap.size (w.heap.size + 2) sz (1024 * (n - cnt)) rv dep ∧ Below w.heap.size w wr ∧ w.heap.size + 2 ≤ wr.heap.size ∧
      ∀ u, u < 9 → ∀ x, x ∈ dep u ↔ x < n ∧ left (.string (idl x)) = false ∧ pIn n inP u = true ∧ u ∈ dl x) (fun _ wr => wr.rangeLeft sb (w.heap.size + 1))
  case atStart =>
    refine ⟨_, _, 0, _, _, hrg0, fun _ h => h, by rw [HSZ.out]; exact Nat.le_refl _, by rw [HSZ.out]; simpa using hD0, hB0, by have := HW0.out; omega, fun u hu x => ?_⟩
    simp only [List.not_mem_nil, false_iff]
    rintro ⟨h1, h2, _⟩
    rw [HHAS.out, onId_at _ (by have := HS.out.n8; omega), subH, if_pos h1] at h2
    simp at h2
  case round =>
    clear hrg0 hD0 hB0
    obtain ⟨left, cnt, sz, rv, dep, hrg, hle, hcn, hD, hB, hws, hdep⟩ := hrel
    go_wp2_with (first
      | (at_next; refine wpList_next_ranges _ rfl _ rfl 9 law9 RV Value.string id (fun key kl hk => keyOf_string_inv hk) (fun v y _ => ⟨v, rfl⟩) sb (w.heap.size + 1) n D left cnt rfl hrg ?_ ?_))
    · intro _ hl0
      go_wp2
      go_ret
      refine ⟨_, _, sz, _, rv, dep, rfl, Nat.le_refl _, ?_, hD, hB, fun u hu x => ?_⟩
      · have := HS.out.n8; omega
      · rw [hdep u hu x, hl0]; simp
    · intro xs v kl y1 y2 w1 cnt1 hkey hlk hv hat hrg1 hlt hg1 hs1 hen
      obtain ⟨i, hi, rfl, rfl, rfl⟩ : ∃ i, i < n ∧ xs = idS i ∧ kl = .string (idl i) ∧ v = subV (inP i) (dv i) (co i) := by
        have hk2 : kl = .string xs.data.toList := by
          rw [keyOf_string Yba.underlying9] at hkey
          simp [mapKey, Yba.underlying9] at hkey
          exact hkey.2.symm
        subst hk2
        have h1 := hle _ hlk
        rw [HHAS.out] at h1
        obtain ⟨i, hi9, hxi, hsi⟩ := onIdK_some h1
        have hin : i < n := by
          unfold subH at hsi
          by_cases e : i < n
          · exact e
          · rw [if_neg e] at hsi; simp at hsi
        have h2 := hat (.held (.bool false))
        rw [hxi, HAT.out, onId_at _ hi9, subH, if_pos hin] at h2
        simp only [RV, Option.some.injEq, Prod.mk.injEq] at hv
        rw [← hv.1] at h2
        simp only [Option.getD_some, DataW.held.injEq] at h2
        refine ⟨i, hin, WideShapes.bytes_inj (by rw [hxi]; rfl), by rw [hxi], ?_⟩
        exact h2.symm
      clear hkey hv hat
      have hn8 := HS.out.n8
      have hD1 := hD.kept hg1 (by omega) (by omega)
      have hB1 : Below w.heap.size w w1 := hB.grown hg1 (by omega) (fun k hk => by cases hk; omega)
      have hf4 := field4
      obtain ⟨L, hL⟩ : ∃ L, L = (dl i).length := ⟨_, rfl⟩
      have hLL : L ≤ 1024 := by rw [hL]; exact HS.out.len i hi
      have hrow := HS.out.rows i hi
      rw [← hL] at hrow
      obtain ⟨da, dc, hdv, hdc, hdg⟩ := ownsRow_slice hrow
      rw [hdv] at hen ⊢
      have hix0 : 0 < L → ∃ g, da = some ⟨g, 0, none⟩ ∧ g < w.heap.size ∧ ∀ j, j < L → w.cell? ⟨g, j, none⟩ = some (sV ((dl i).getD j 0)) := by
        intro h0
        obtain ⟨g, c, hv, _, hg⟩ := hrow.form h0
        rw [hv] at hrow hdv
        simp only [Value.slice.injEq] at hdv
        refine ⟨g, hdv.1.symm, hg, fun j hj => ?_⟩
        rw [hrow.cellAt j (by omega), List.getElem?_map, List.getElem?_eq_getElem (by omega)]
        simp [List.getD, List.getElem?_eq_getElem (show j < (dl i).length by omega)]
      have HIX := hide hix0
      have HL := hide hL
      obtain ⟨N0, hN0⟩ : ∃ N0, N0 = 1024 * (n - cnt) := ⟨_, rfl⟩
      rw [← hN0] at hD1
      have hN8 : N0 ≤ 8192 := by omega
      have HN0 := hide hN0
      have HDEP := hide hdep
      have HLE := hide hle
      have HRL := hide hrg.left_eq
      clear hix0 hL hN0 hrow hdv hdg hD hB hdep hle hrg hg1
      go_wp2
      have hI1 : IS w w1 sb n D (fun z => left z && !z.sameKey (.string (idl i))) cnt1 sz N0 rv dep := ⟨hrg1, hD1, hB1, by omega⟩
      have hI2 : IS w (w1.alloc (.cells #[.pointer none, .int .i64 0, .int .u64 0, .int .i64 0, .pointer none, .bool false, .int .u64 0, .int .i64 0, .pointer none, .int .u64 0, .int .i64 0, .pointer none, .bool (inP i), .slice da L dc, .bool (co i), .pointer none, .pointer none] 40)) sb n D (fun z => left z && !z.sameKey (.string (idl i))) cnt1 sz N0 rv dep :=
        ⟨hrg1.alloc _, hD1.below ((Below.refl _ _).alloc (Nat.le_refl _) _), hB1.alloc (by omega) _, by simp; omega⟩
      have HLT := hide hlt
      have HCN := hide hcn
      have HLK := hide hlk
      clear hen hI1 hrg1 hD1 hB1 hs1 hlt hcn hlk hws
      go_loopw [19] (fun iv wq => ∃ (j sz' : Nat) (rv' : Nat → Value) (dep' : Nat → List Nat), j ≤ L ∧ iv = .int .i64 j ∧ IS w wq sb n D (fun z => left z && !z.sameKey (.string (idl i))) cnt1 sz' (N0 + j) rv' dep' ∧ ∀ u, u < 9 → ∀ x, x ∈ dep' u ↔ x ∈ dep u ∨ (x = i ∧ pIn n inP u = true ∧ u ∈ (dl i).take j)) (fun iv _ => L - (intOf iv).toNat)
      case atStart => exact ⟨0, sz, rv, dep, Nat.zero_le _, rfl, hI2, fun u _ x => by simp⟩
      case round =>
        clear hI2
        obtain ⟨j, sz', rv', dep', hj, rfl, hI, hdp⟩ := hrel
        have HDP := hide hdp
        clear hdp
        by_cases hjL : j < L
        · have hg0 : decide ((j : Int) < (L : Int)) = true := decide_eq_true (by omega)
          obtain ⟨g, rfl, hgl, hcell⟩ := HIX.out (by omega)
          obtain ⟨d, hd⟩ : ∃ d, d = (dl i).getD j 0 := ⟨_, rfl⟩
          have cd : wr.cell? ⟨g, j, none⟩ = some (.string (idS d)) := by rw [hd]; exact (hI.below.cell (p := ⟨g, j, none⟩) hgl).trans (hcell j hjL)
          have hdm : d ∈ dl i := by
            rw [hd, List.getD, List.getElem?_eq_getElem (by rw [← HL.out]; exact hjL)]
            exact List.getElem_mem _
          have hd9 := HS.out.small i hi d hdm
          have HTK : Hid (∀ u, u ∈ (dl i).take (j + 1) ↔ u ∈ (dl i).take j ∨ u = d) := by
            intro u
            rw [List.take_succ_eq_append_getElem (by rw [← HL.out]; exact hjL), List.mem_append, List.mem_singleton, hd, List.getD, List.getElem?_eq_getElem (by rw [← HL.out]; exact hjL)]
            rfl
          have hM := hI.map HSZ.out HHAS.out HAT.out
          obtain ⟨ds, c, hsub, _⟩ := subH_at n inP co dv hd9
          have hf4 := field4
          by_cases hpd : pIn n inP d = true
          · rw [hpd] at hsub
            obtain ⟨HO, HNW, H1, HMM⟩ := hI.deps.prep (x := i) hd9
            have hlook := hI.deps.look hd9
            have hMd := hI.deps.map
            have hdl := hI.deps.len d hd9
            have hszN := hI.deps.szN
            obtain ⟨i0, hi0, hz0, hz1, hz2⟩ := info_parts info9
            obtain ⟨ld, hld⟩ : ∃ ld, ld = (dep' d).length := ⟨_, rfl⟩
            rw [← hld] at HO hdl
            have HLD := hide hld
            have HI := hide hI
            have hsz := hI.size
            clear hI hld hd hcell
            go_wp2_with (first
              | (at_lookup; refine wpList_look _ rfl _ _ 27 rfl 9 40 law9 Yba.underlying27 (zero40 _) sb n _ rfl hM _ _ rfl (keyId d) _ hsub ?_)
              | (at_lookup; refine wpList_look _ rfl _ _ 75 rfl 9 28 law9 Yba.underlying75 (zero28 _) w.heap.size sz' _ rfl hMd _ _ rfl (keyId d) _ hlook ?_)
              | (at_builtin; refine wpList_append_lies _ rfl (.tmp 31) (.tmp 33) 28 rfl (w.heap.size + 2) 9 i0 (.string ByteArray.empty) 1 16 Yba.underlying28 hi0 hz0 hz1 hz2 rfl (by decide) _ ld _ rfl HO.out ⟨wr.heap.size, 0, none⟩ 1 1 _ rfl rfl HNW.out H1.out (by omega) (by unfold maxLen; omega) (by omega) (by simp; omega) _ rfl ?_; intro g2 cap2 w2 hown2 hgrow2 hat2 hlt2; have hM2 := HMM.out w2 hgrow2)
              | (at_mapUpdate; refine wpList_put _ rfl _ _ _ 75 rfl 9 28 law9 Yba.underlying75 w.heap.size sz' _ rfl hM2 (by unfold maxLen; omega) string_inj _ _ (idl d) rfl rfl (keyId d) ?_; intro w3 hM3 ht3))
            have e := HLD.out
            subst e
            refine ⟨⟨j + 1, _, _, _, by omega, by go_num, HI.out.push hbl hd9 hown2 hgrow2 hat2 (Nat.le_refl _) hM3 (by split <;> omega) ht3, fun u hu x => ?_⟩, by simp [intOf]; omega⟩
            by_cases e : u = d
            · subst e
              simp only [if_true, List.mem_append, List.mem_singleton, HDP.out u hu x, HTK.out u, hpd, true_and, or_true, and_true]
              constructor
              · rintro ((h | h) | h)
                · exact .inl h
                · exact .inr h.1
                · exact .inr h
              · rintro (h | h)
                · exact .inl (.inl h)
                · exact .inr h
            · simp only [if_neg e]
              simp only [HDP.out u hu x, HTK.out u, e, or_false]
          · have hpd' : pIn n inP d = false := by simpa using hpd
            rw [hpd'] at hsub
            have HI := hide hI
            clear hI hd hcell
            go_wp2_with (first
              | (at_lookup; refine wpList_look _ rfl _ _ 27 rfl 9 40 law9 Yba.underlying27 (zero40 _) sb n _ rfl hM _ _ rfl (keyId d) _ hsub ?_))
            go_roundw
            case rel =>
              refine ⟨j + 1, sz', rv', dep', by omega, by go_num, ⟨HI.out.rg, HI.out.deps.more (by omega), HI.out.below, HI.out.size⟩, fun u hu x => ?_⟩
              by_cases e : u = d
              · subst e
                simp [HDP.out u hu x, hpd']
              · simp only [HDP.out u hu x, HTK.out u, e, or_false]
            case measure => simp [intOf]; omega
        · have hg0 : decide ((j : Int) < (L : Int)) = false := decide_eq_false (by omega)
          obtain rfl : j = L := by omega
          go_wp2
          go_roundw
          case rel =>
            have hlt := HLT.out
            have hcn := HCN.out
            have hN := HN0.out
            refine ⟨_, cnt1, sz', rv', dep', hI.rg, fun kl hk => ?_, by omega, hI.deps.more ?_, hI.below, hI.size, fun u hu x => ?_⟩
            · simp only [Bool.and_eq_true] at hk
              exact HLE.out kl hk.1
            · have e : n - cnt + 1 ≤ n - cnt1 := by omega
              have : 1024 * (n - cnt + 1) ≤ 1024 * (n - cnt1) := Nat.mul_le_mul_left _ e
              omega
            · rw [HDP.out u hu x, HDEP.out u hu x, HL.out, List.take_length]
              by_cases e : x = i
              · subst e
                simp [HLK.out, hi, sameKey_self]
              · by_cases hx : x < n
                · simp [e, hx, sameKey_ne (show x < 9 by omega) (show i < 9 by omega) e]
                · simp [e, hx]
          case measure => rw [hI.rg.left_eq, HRL.out]; exact HLT.out
end Go.Proofs.Ybulkcstq
