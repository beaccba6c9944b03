/-
  OUR OWN. 'cascade' (function 7): its walks from the roots.
-/
import Derived.Test.YbulkcstqCas
namespace Go.Proofs.Ybulkcstq
open Go.RowKit Go.Maps Go.WideMaps Bfs

def codeDrop : Nat → Code → Code
  | 0, c => c
  | n + 1, .seq _ c => codeDrop n c
  | _ + 1, c => c
/-- What is left of a body behind n statements. -/
def restOf (b : Option Code) (n : Nat) : Code := match b with
  | some c => codeDrop n c
  | none => .skip
theorem wp_seq_of {P : Program} {Q : Exit → Act → World → Prop} {a : Act} {w : World} {c x y : Code} (hc : c = .seq x y) (h : (Code.seq x y).wp P Q a w) : c.wp P Q a w := hc ▸ h

/-- One root more. -/
def rE (cand : List Nat → List Nat) (stop : Nat → Bool) (s : (Nat → Bool) × List En) (r : Nat) : (Nat → Bool) × List En :=
  if s.1 r then s else (fun x => x == r || s.1 x, s.2 ++ (ent cand stop r 10).map fun p => (p.1, r, p.2))
def rootsE (cand : List Nat → List Nat) (stop : Nat → Bool) (rts : List Nat) : (Nat → Bool) × List En := rts.foldl (rE cand stop) (fun _ => false, [])
theorem rootsE_snoc (cand : List Nat → List Nat) (stop : Nat → Bool) (rts : List Nat) (r : Nat) : rootsE cand stop (rts ++ [r]) = rE cand stop (rootsE cand stop rts) r := by simp [rootsE, List.foldl_append]

theorem World.ownsRow_full_made (w : World) (base r : Nat) (hb : base ≤ w.heap.size) : (w.alloc (.cells #[sV r] 9)).ownsRow base 9 1 (.slice (some ⟨w.heap.size, 0, none⟩) 1 1) [r].length ([r].map sV) := by
  refine ⟨rfl, .inr ⟨w.heap.size, 1, #[sV r], rfl, hb, ?_, Nat.le_refl _, by unfold maxLen; omega, rfl, rfl⟩⟩
  show (w.heap.push _)[w.heap.size]? = _
  simp
theorem setH_one {r : Nat} (hr : r < 9) (l : List UInt8) : (if l = idl r then some (Value.bool true) else none) = onId (setH (fun x => x == r)) l := by
  have e : (if l = idl r then some (Value.bool true) else none) = (if l = idl r then some (Value.bool true) else onId (fun _ => none) l) := by
    have : ∀ k, onIdK (fun _ => none) k l = none := by
      intro k
      induction k with
      | zero => rfl
      | succ k ih => rw [onIdK, ih]; split <;> rfl
    rw [onId, this]
  rw [e, onId_upd _ _ hr]
  congr 1
  funext j
  unfold setH
  by_cases h : j = r <;> simp [h]
theorem nodup9 {l : List Nat} (h : l.Nodup) (h9 : ∀ x ∈ l, x < 9) : l.length ≤ 9 := by
  have hp : l.Perm ((List.range 9).filter fun x => decide (x ∈ l)) := (List.perm_ext_iff_of_nodup h (List.nodup_range.filter _)).2 (fun x => by
    rw [List.mem_filter, List.mem_range]
    exact ⟨fun hx => ⟨h9 x hx, by simpa using hx⟩, fun hx => by simpa using hx.2⟩)
  rw [hp.length_eq]
  have := List.length_filter_le (fun x => decide (x ∈ l)) (List.range 9)
  simpa using this

theorem st9 {cand : List Nat → List Nat} {stop : Nat → Bool} {r : Nat} (hr : r < 9) (hc : ∀ l x, x ∈ cand l → x < 9) : ∀ d, ∀ x ∈ (st cand stop r d).2, x < 9
  | 0, x, h => by have : x = r := by simpa [st] using h
                  omega
  | d + 1, x, h => hc _ x (st_in h).1
theorem ent_le {cand : List Nat → List Nat} {stop : Nat → Bool} {r : Nat} (hr : r < 9) (hc : ∀ l x, x ∈ cand l → x < 9) : ∀ d, (ent cand stop r d).length ≤ 9 * d
  | 0 => by simp [ent]
  | d + 1 => by
    have := ent_le (stop := stop) hr hc d
    have := nodup9 (st_nodup (cand := cand) (stop := stop) (r := r) (d + 1)) (st9 hr hc (d + 1))
    rw [ent, List.length_append, List.length_map]
    omega
def cnt9 (R : Nat → Bool) : Nat := ((List.range 9).filter R).length
theorem cnt9_le (R : Nat → Bool) : cnt9 R ≤ 9 := by have := List.length_filter_le R (List.range 9); simpa [cnt9] using this
theorem cnt9_reach {R : Nat → Bool} {v : Nat} (hv : v < 9) (h : R v = false) : cnt9 R + 1 ≤ cnt9 (fun x => x == v || R x) :=
  Bfs.filter_lt (l := List.range 9) (R := R) (R' := fun x => x == v || R x) (fun y hy => by simp [hy]) (List.mem_range.2 hv) h (by simp)
/-- The round of one depth, part of the candidates done. -/
def rr (stop : Nat → Bool) (R0 : Nat → Bool) (cs : List Nat) : (Nat → Bool) × List Nat := Bfs.run stop (R0, []) cs
theorem rr_snoc (stop : Nat → Bool) (R0 : Nat → Bool) (cs : List Nat) (v : Nat) : rr stop R0 (cs ++ [v]) = Bfs.step stop (rr stop R0 cs) v := by rw [rr, run_append]; rfl
theorem rr_nodup (stop R0 : Nat → Bool) (cs : List Nat) : (rr stop R0 cs).2.Nodup := run_nodup cs _ (by simp) (fun x hx => by simp at hx)
theorem rr_mem {stop R0 : Nat → Bool} {cs : List Nat} {x : Nat} (h : x ∈ (rr stop R0 cs).2) : x ∈ cs := by
  rcases (run_mem cs _ x).1 h with h | h
  · simp at h
  · exact h.1

theorem lt_of_cell {W : World} {b o : Nat} {v : Value} (h : W.cell? ⟨b, o, none⟩ = some v) : b < W.heap.size := by
  simp only [World.cell?] at h
  cases hb : W.heap[b]? with
  | none => rw [hb] at h; simp at h
  | some x => exact (Array.getElem?_eq_some_iff.1 hb).1

/-- Between two roots. -/
structure C0 (w0 w : World) (N : Nat) (Wd : Nat → Bool) (ev : Value) (E : List En) : Prop where
  below : Below w0.heap.size w0 w
  wk : SetMap w w0.heap.size N Wd
  ent : w.ownsRow w0.heap.size 64 4 ev E.length (E.flatMap eC)

theorem CS.root {w0 w w1 w2 : World} {N r : Nat} {Wd Wd' R : Nat → Bool} {ev : Value} {E : List En} (h : C0 w0 w N Wd ev E) (hM : SetMap w1 w0.heap.size (N + 1) Wd') (ht : w.mapTurned w1 w0.heap.size) (hM2 : SetMap w2 w1.heap.size 1 R) (ht2 : (w1.alloc (.map #[] 0)).mapTurned w2 w1.heap.size) :
    CS w0 (w2.alloc (.cells #[sV r] 9)) w0.heap.size w1.heap.size (N + 1) Wd' R ev (.slice (some ⟨w2.heap.size, 0, none⟩) 1 1) (.slice none 0 0) E [r] [] := by
  have hg := ht.grown
  have hg2 := ht2.grown
  have hs1 := hg.size
  have hs2 := hg2.size
  have hs0 := h.below.size
  have hlt := h.wk.lt
  simp only [World.size_alloc] at hs2
  obtain ⟨sz, _, hm⟩ := h.wk
  have hb1 : Below w0.heap.size w0 w1 := h.below.grown hg hs0 (fun k hk => by cases hk; exact Nat.le_refl _)
  have hb2 : Below w0.heap.size w0 w2 := (hb1.alloc (by omega) _).grown hg2 (by simp; omega) (fun k hk => by cases hk; omega)
  have he1 : w1.ownsRow w0.heap.size 64 4 ev E.length (E.flatMap eC) := kept_ne h.ent hg (fun g hv e => map_row hm h.ent hv (Option.some.inj e))
  have he2 : w2.ownsRow w0.heap.size 64 4 ev E.length (E.flatMap eC) := kept_ne (he1.alloc _) hg2 (fun g hv e => by have := (he1.lt g hv).2; have := Option.some.inj e; omega)
  have hw2 : SetMap w2 w0.heap.size (N + 1) Wd' := (hM.block (Below.heap_alloc _ _ _ hM.lt)).block (hg2.block _ (by have := hM.lt; simp; omega) (fun e => by have := Option.some.inj e; have := hM.lt; omega))
  have hrow := World.ownsRow_full_made w2 w0.heap.size r (by omega)
  refine ⟨hb2.alloc (by omega) _, hw2.block (Below.heap_alloc _ _ _ hw2.lt), Nat.le_refl _, (hM2.more (by omega)).block (Below.heap_alloc _ _ _ hM2.lt), by omega, by have := hM.lt; omega, he2.alloc _, hrow, World.ownsRow_nil _ _ _ _, fun g _ e => by simp [Value.ownBlock] at e⟩

set_option maxRecDepth 100000 in
set_option maxHeartbeats 4000000 in
theorem cas_tail (w w0 : World) (K : Act → World → Prop) (swb db hb nr rc sb n base szd Nd Nh : Nat) (ra : Option Addr) (inP co H : Nat → Bool) (dv rv : Nat → Value) (dep : Nat → List Nat) (rts : List Nat)
    (hK : ∀ a wx, (restOf Yba.f7.body 8).wp Yba.prog (bodyPost Yba.prog Yba.f7 fun e w' => ∃ ev E, e = .returned ev ∧ w'.ownsRow w.heap.size 64 4 ev E.length (E.flatMap eC) ∧ Below w.heap.size w w' ∧ E = (rootsE (fun l => l.flatMap dep) (fun v => (decide (v < n) && co v) || H v) rts).2) a wx → K a wx)
    {u2 u3 u4 u7 u8 u9 u10 u13 u14 u15 u16 u17 u18 u19 u20 u21 u22 u23 u24 u25 u26 u27 u28 u29 u30 u31 u32 u33 u34 u35 u36 u37 u38 u39 u40 u41 u42 u43 u44 u45 u46 u47 u48 u49 u50 u51 u52 u53 u54 u55 u56 u57 u58 u59 u60 u61 u62 u63 u64 u65 u66 u67 u68 u69 u70 u71 u72 u73 u74 u75 u76 u77 u78 u79 u80 u81 u82 u83 u84 u85 u86 u87 u88 u89 u90 u91 u92 u93 u94 u95 u96 u97 u98 u99 u100 u101 u102 u103 u104 u105 u106 u107 u108 u109 u110 u111 u112 u113 u114 u115 u116 u117 u118 u119 u120 u121 u122 u123 u124 u125 u126 u127 u128 u129 u130 : Value}
    (hsw : w0.cell? ⟨swb, 3, none⟩ = some (.map (some sb))) (hsub : HasMap w0 Yba.prog 9 Lit.string sb n (onId (subH n inP co dv))) (hdep : Deps w0 db base szd Nd rv dep) (hheld : SetMap w0 hb Nh H) (hroot : w0.ownsRow 0 9 1 (.slice ra nr rc) nr (rts.map sV))
    (hr9 : ∀ r ∈ rts, r < 9) (hd9 : ∀ u v, v ∈ dep u → v < 9) (hnr : nr ≤ 1024) (hNd : Nd ≤ 8192) (hbw : Below w.heap.size w w0) :
    K { tmps := #[.pointer (some ⟨swb, 0, none⟩), .slice ra nr rc, u2, u3, u4, .map (some db), .map (some hb), u7, u8, u9, u10, .slice none 0 0, .map (some w0.heap.size), u13, u14, u15, u16, u17, u18, u19, u20, u21, u22, u23, u24, u25, u26, u27, u28, u29, u30, u31, u32, u33, u34, u35, u36, u37, u38, u39, u40, u41, u42, u43, u44, u45, u46, u47, u48, u49, u50, u51, u52, u53, u54, u55, u56, u57, u58, u59, u60, u61, u62, u63, u64, u65, u66, u67, u68, u69, u70, u71, u72, u73, u74, u75, u76, u77, u78, u79, u80, u81, u82, u83, u84, u85, u86, u87, u88, u89, u90, u91, u92, u93, u94, u95, u96, u97, u98, u99, u100, u101, u102, u103, u104, u105, u106, u107, u108, u109, u110, u111, u112, u113, u114, u115, u116, u117, u118, u119, u120, u121, u122, u123, u124, u125, u126, u127, u128, u129, u130], defers := [] } (w0.alloc (.map #[] 0)) := by
  refine hK _ _ ?_
  refine wp_seq_of (show restOf Yba.f7.body 8 = Code.seq _ _ from rfl) ?_
  have hnl : nr = rts.length := by have := hroot.1; simpa using this.symm
  have hC0 : C0 w0 (w0.alloc (.map #[] 0)) 0 (rootsE (fun l => l.flatMap dep) (fun v => (decide (v < n) && co v) || H v) (rts.take 0)).1 (.slice none 0 0) (rootsE (fun l => l.flatMap dep) (fun v => (decide (v < n) && co v) || H v) (rts.take 0)).2 :=
    ⟨(Below.refl _ _).alloc (Nat.le_refl _) _, SetMap.made w0, World.ownsRow_nil _ _ _ _⟩
  obtain ⟨cand, hcand⟩ : ∃ cand : List Nat → List Nat, cand = fun l => l.flatMap dep := ⟨_, rfl⟩
  obtain ⟨stop, hstop⟩ : ∃ stop : Nat → Bool, stop = fun v => (decide (v < n) && co v) || H v := ⟨_, rfl⟩
  rw [← hcand, ← hstop] at hC0 ⊢
  have HC := hide hcand
  have HST := hide hstop
  have HSUB := hide hsub
  have HDEP := hide hdep
  have HHELD := hide hheld
  have HROOT := hide hroot
  have HR9 := hide hr9
  have HD9 := hide hd9
  have HNL := hide hnl
  clear hcand hstop hsub hdep hheld hroot hr9 hd9 hnl
  go_wp2
  go_loopw [63, 11] (fun iv ev wr => ∃ (k N : Nat), k ≤ nr ∧ iv = .int .i64 k ∧ N ≤ 10 * k ∧ (rootsE cand stop (rts.take k)).2.length ≤ 90 * k ∧ C0 w0 wr N (rootsE cand stop (rts.take k)).1 ev (rootsE cand stop (rts.take k)).2) (fun iv _ _ => nr - (intOf iv).toNat)
  case atStart => exact ⟨0, 0, Nat.zero_le _, rfl, Nat.le_refl _, by simp [rootsE], hC0⟩
  case round =>
    clear hC0
    obtain ⟨k, N, hk, rfl, hN, hEl, hC⟩ := hrel
    by_cases hkn : k < nr
    · have hg1 : decide ((k : Int) < (nr : Int)) = true := decide_eq_true (by omega)
      obtain ⟨g, c, hv, _, hgl⟩ := HROOT.out.form (by omega)
      simp only [Value.slice.injEq] at hv
      obtain ⟨rfl, _, rfl⟩ := hv
      obtain ⟨r, hr⟩ : ∃ r, r = rts.getD k 0 := ⟨_, rfl⟩
      have hkl : k < rts.length := by rw [← HNL.out]; exact hkn
      have cr0 : w0.cell? ⟨g, k, none⟩ = some (.string (idS r)) := by
        rw [HROOT.out.cellAt k (by omega), List.getElem?_map, List.getElem?_eq_getElem hkl, hr]
        simp [List.getD, List.getElem?_eq_getElem hkl]
      have cr : wr.cell? ⟨g, k, none⟩ = some (.string (idS r)) := (hC.below.cell (p := ⟨g, k, none⟩) hgl).trans cr0
      have hr9 : r < 9 := by
        refine HR9.out r ?_
        rw [hr, List.getD, List.getElem?_eq_getElem hkl]
        exact List.getElem_mem _
      have HTK : Hid (rts.take (k + 1) = rts.take k ++ [r]) := by
        rw [hr, List.take_succ_eq_append_getElem hkl, List.getD, List.getElem?_eq_getElem hkl]
        rfl
      obtain ⟨Wd, hWd⟩ : ∃ Wd, Wd = (rootsE cand stop (rts.take k)).1 := ⟨_, rfl⟩
      obtain ⟨E, hE⟩ : ∃ E, E = (rootsE cand stop (rts.take k)).2 := ⟨_, rfl⟩
      rw [← hWd, ← hE] at hC
      rw [← hE] at hEl
      have hst : rootsE cand stop (rts.take k) = (Wd, E) := by rw [hWd, hE]
      have HSTE := hide hst
      clear hWd hE hst hr cr0
      obtain ⟨szw, hszw, hMw⟩ := hC.wk
      have hlk := setH_at Wd hr9
      by_cases hw : Wd r = true
      · rw [hw] at hlk
        go_wp2_with (first
          | (at_lookup; refine wpList_look _ rfl _ _ 77 rfl 9 4 law9 Yba.underlying77 (zero4 _) w0.heap.size szw _ rfl hMw _ _ rfl (keyId r) _ hlk ?_))
        go_roundw
        case rel =>
          have e : rootsE cand stop (rts.take (k + 1)) = (Wd, E) := by rw [HTK.out, rootsE_snoc, HSTE.out, rE, if_pos hw]
          exact ⟨k + 1, N, by omega, by go_num, by omega, by rw [e]; show E.length ≤ _; omega, by rw [e]; exact hC⟩
        case measure => simp [intOf]; omega
      · have hw' : Wd r = false := by simpa using hw
        rw [hw'] at hlk
        have HCC := hide hC
        clear hC
        go_wp2_with (first
          | (at_lookup; refine wpList_look _ rfl _ _ 77 rfl 9 4 law9 Yba.underlying77 (zero4 _) w0.heap.size szw _ rfl hMw _ _ rfl (keyId r) _ hlk ?_)
          | (at_mapUpdate; refine wpList_put _ rfl _ _ _ 77 rfl 9 4 law9 Yba.underlying77 w0.heap.size szw _ rfl hMw (by unfold maxLen; omega) string_inj _ _ (idl r) rfl rfl (keyId r) ?_; intro w1 hM1 ht1; obtain ⟨w2, hrun2, hM2, ht2⟩ := (HasMap.made w1 Yba.prog 9 Lit.string).store law9 Yba.underlying77 (by unfold maxLen; omega) string_inj (val := .bool true) (keyId r); have hmk : (Instr.makeMap 77 none).run Yba.prog w1 = .ok (.map (some w1.heap.size)) (w1.alloc (.map #[] 0)) := by kernel_rfl))
        obtain ⟨Wd', hWd'⟩ : ∃ Wd' : Nat → Bool, Wd' = fun x => x == r || Wd x := ⟨_, rfl⟩
        have hCS := CS.root (r := r) HCC.out (SetMap.put hszw hr9 hM1) ht1 (R := fun x => x == r) ⟨_, by simp, hM2.congr (setH_one hr9)⟩ ht2
        rw [← hWd'] at hCS
        obtain ⟨rb, hrb⟩ : ∃ rb, rb = w1.heap.size := ⟨_, rfl⟩
        rw [← hrb] at hCS ⊢
        have HWD := hide hWd'
        have hc9 : ∀ l x, x ∈ cand l → x < 9 := by
          intro l x hx
          rw [HC.out] at hx
          obtain ⟨u, _, hxu⟩ := List.mem_flatMap.1 hx
          exact HD9.out u x hxu
        have hc0 : cand [] = [] := by rw [HC.out]; rfl
        have hcnt : 1 ≤ cnt9 (st cand stop r 0).1 := by
          have : ∀ r, r < 9 → 1 ≤ ((List.range 9).filter fun x => x == r).length := by decide
          exact this r hr9
        have HC9 := hide hc9
        have HC0 := hide hc0
        have HCN := hide hcnt
        clear hWd' hM1 ht1 hrun2 hM2 ht2 hmk hlk hMw HCC hrb hw cr hc9 hc0 hcnt
        go_loopw [11, 16, 17] (fun ev lv dv' wr => ∃ (d N' : Nat), d ≤ 9 ∧ dv' = .int .i64 ((d + 1 : Nat) : Int) ∧ N' ≤ 10 * k + cnt9 (st cand stop r d).1 ∧ CS w0 wr w0.heap.size rb N' Wd' (st cand stop r d).1 ev lv (.slice none 0 0) (E ++ (ent cand stop r d).map fun p => (p.1, r, p.2)) (st cand stop r d).2 []) (fun _ _ dv' _ => 11 - (intOf dv').toNat)
        case atStart => exact ⟨0, N + 1, by omega, rfl, by have := HCN.out; omega, by
          show CS w0 _ w0.heap.size rb (N + 1) Wd' (fun x => x == r) _ _ _ (E ++ []) [r] []
          rw [List.append_nil]
          exact hCS⟩
        case round =>
          clear hCS HCN
          obtain ⟨d, N', hd, rfl, hN', hS⟩ := hrel
          obtain ⟨lev, hlev⟩ : ∃ lev, lev = (st cand stop r d).2 := ⟨_, rfl⟩
          obtain ⟨R0, hR0⟩ : ∃ R0, R0 = (st cand stop r d).1 := ⟨_, rfl⟩
          obtain ⟨E1, hE1⟩ : ∃ E1, E1 = E ++ (ent cand stop r d).map fun p => (p.1, r, p.2) := ⟨_, rfl⟩
          rw [← hlev, ← hR0, ← hE1] at hS
          rw [← hR0] at hN'
          obtain ⟨la, lc, hlv, _, _⟩ := ownsRow_slice hS.lev
          subst hlv
          obtain ⟨L, hL⟩ : ∃ L, L = lev.length := ⟨_, rfl⟩
          obtain ⟨dd, hdd⟩ : ∃ dd, dd = d + 1 := ⟨_, rfl⟩
          rw [← hdd]
          have hE1l : E1.length ≤ 90 * k + 9 * d := by
            rw [hE1, List.length_append, List.length_map]
            have := ent_le (stop := stop) hr9 HC9.out d
            omega
          have hL9 : L ≤ 9 := by rw [hL, hlev]; exact nodup9 (st_nodup d) (st9 hr9 HC9.out d)
          rw [← hL] at hS ⊢
          have HLEV := hide hlev
          have HR0 := hide hR0
          have HE1 := hide hE1
          have HL := hide hL
          have HDD := hide hdd
          have hdd10 : dd ≤ 10 := by omega
          by_cases hL0 : 0 < L
          · have hg2 : decide ((0 : Int) < (L : Int)) = true := decide_eq_true (by omega)
            have hg2b : decide (0 < L) = true := decide_eq_true hL0
            have hd8 : d ≤ 8 := by
              refine st_bound (stop := stop) HC9.out HC0.out hr9 (d := d) ?_
              rw [← hlev]
              intro e
              rw [e] at hL
              simp at hL
              omega
            clear hlev hR0 hE1 hL hdd
            go_wp2
            go_loopw [11, 18, 84] (fun ev nv iv wr => ∃ (a N2 : Nat), a ≤ L ∧ iv = .int .i64 a ∧ N2 ≤ 10 * k + cnt9 (rr stop R0 ((lev.take a).flatMap dep)).1 ∧ CS w0 wr w0.heap.size rb N2 Wd' (rr stop R0 ((lev.take a).flatMap dep)).1 ev (.slice la L lc) nv (E1 ++ (rr stop R0 ((lev.take a).flatMap dep)).2.map fun v => (v, r, dd)) lev (rr stop R0 ((lev.take a).flatMap dep)).2) (fun _ _ iv _ => L - (intOf iv).toNat)
            case atStart =>
              refine ⟨0, N', Nat.zero_le _, rfl, hN', ?_⟩
              show CS w0 _ w0.heap.size rb N' Wd' R0 _ _ _ (E1 ++ []) lev []
              rw [List.append_nil]
              exact hS
            case round =>
              clear hS hN'
              obtain ⟨a, N2, ha, rfl, hN2, hS⟩ := hrel
              by_cases haL : a < L
              · have hg3 : decide ((a : Int) < (L : Int)) = true := decide_eq_true (by omega)
                obtain ⟨u, hu⟩ : ∃ u, u = lev.getD a 0 := ⟨_, rfl⟩
                have hal : a < lev.length := by rw [← HL.out]; exact haL
                obtain ⟨lg, lcap, hv, _, hlgl⟩ := hS.lev.form (by omega)
                simp only [Value.slice.injEq] at hv
                obtain ⟨rfl, hLL, rfl⟩ := hv
                clear hLL
                have cu : wr.cell? ⟨lg, a, none⟩ = some (.string (idS u)) := by
                  have h := hS.lev
                  rw [HL.out] at h
                  rw [h.cellAt a (by omega), List.getElem?_map, List.getElem?_eq_getElem hal, hu]
                  simp [List.getD, List.getElem?_eq_getElem hal]
                have hu9 : u < 9 := by
                  refine st9 (stop := stop) hr9 HC9.out d u ?_
                  rw [← HLEV.out, hu, List.getD, List.getElem?_eq_getElem hal]
                  exact List.getElem_mem _
                have hta : (lev.take (a + 1)).flatMap dep = (lev.take a).flatMap dep ++ dep u := by
                  rw [List.take_succ_eq_append_getElem hal, List.flatMap_append, hu, List.getD, List.getElem?_eq_getElem hal]
                  simp
                have HTA := hide hta
                clear hta
                obtain ⟨P, hP⟩ : ∃ P, P = (dep u).length := ⟨_, rfl⟩
                obtain ⟨pa, pc, hpv, _, _⟩ := ownsRow_slice (HDEP.out.rows.own u hu9)
                have hPl : P ≤ 8192 := by rw [hP]; exact Nat.le_trans (HDEP.out.len u hu9) hNd
                have hlkd := HDEP.out.look hu9
                rw [hpv, ← hP] at hlkd
                have hMd := HDEP.out.map.below hS.below HDEP.out.map.lt
                have HPI : Hid (0 < P → ∃ g, pa = some ⟨g, 0, none⟩ ∧ g < w0.heap.size ∧ ∀ b, b < P → w0.cell? ⟨g, b, none⟩ = some (sV ((dep u).getD b 0))) := by
                  intro h0
                  obtain ⟨g, c, hv, _, hg⟩ := (HDEP.out.rows.own u hu9).form (by omega)
                  rw [hv] at hpv
                  simp only [Value.slice.injEq] at hpv
                  have hrow := HDEP.out.rows.own u hu9
                  rw [hv] at hrow
                  refine ⟨g, hpv.1.symm, hg, fun b hb => ?_⟩
                  rw [hrow.cellAt b (by omega), List.getElem?_map, List.getElem?_eq_getElem (by omega)]
                  simp [List.getD, List.getElem?_eq_getElem (show b < (dep u).length by omega)]
                obtain ⟨c0, hc0⟩ : ∃ c0, c0 = (lev.take a).flatMap dep := ⟨_, rfl⟩
                rw [← hc0] at hS hN2
                have HP := hide hP
                have HCC0 := hide hc0
                have HS := hide hS
                clear hu hP hpv hS hc0
                go_wp2_with (first
                  | (at_lookup; refine wpList_look _ rfl _ _ 75 rfl 9 28 law9 Yba.underlying75 (zero28 _) db szd _ rfl hMd _ _ rfl (keyId u) _ hlkd ?_))
                clear cu hMd hlkd
                go_loopw [11, 18, 92] (fun ev nv iv wr => ∃ (b N3 : Nat), b ≤ P ∧ iv = .int .i64 b ∧ N3 ≤ 10 * k + cnt9 (rr stop R0 (c0 ++ (dep u).take b)).1 ∧ CS w0 wr w0.heap.size rb N3 Wd' (rr stop R0 (c0 ++ (dep u).take b)).1 ev (.slice (some ⟨lg, 0, none⟩) L lc) nv (E1 ++ (rr stop R0 (c0 ++ (dep u).take b)).2.map fun v => (v, r, dd)) lev (rr stop R0 (c0 ++ (dep u).take b)).2) (fun _ _ iv _ => P - (intOf iv).toNat)
                case atStart => exact ⟨0, N2, Nat.zero_le _, rfl, by simpa using hN2, by simpa using HS.out⟩
                case round =>
                  clear HS hN2
                  obtain ⟨b, N3, hbP0, rfl, hN3, hS⟩ := hrel
                  by_cases hbP : b < P
                  · have hg4 : decide ((b : Int) < (P : Int)) = true := decide_eq_true (by omega)
                    obtain ⟨pg, rfl, hpgl, hpc⟩ := HPI.out (by omega)
                    obtain ⟨v, hv⟩ : ∃ v, v = (dep u).getD b 0 := ⟨_, rfl⟩
                    have hbl : b < (dep u).length := by rw [← HP.out]; exact hbP
                    have cv : wr.cell? ⟨pg, b, none⟩ = some (.string (idS v)) := by rw [hv]; exact (hS.below.cell (p := ⟨pg, b, none⟩) hpgl).trans (hpc b hbP)
                    have hv9 : v < 9 := by
                      refine HD9.out u v ?_
                      rw [hv, List.getD, List.getElem?_eq_getElem hbl]
                      exact List.getElem_mem _
                    have htb : c0 ++ (dep u).take (b + 1) = (c0 ++ (dep u).take b) ++ [v] := by
                      rw [List.take_succ_eq_append_getElem hbl, hv, List.getD, List.getElem?_eq_getElem hbl, List.append_assoc]
                      rfl
                    have hrs := rr_snoc stop R0 (c0 ++ (dep u).take b) v
                    rw [← htb] at hrs
                    obtain ⟨R, nx, hRn⟩ : ∃ R nx, (R, nx) = rr stop R0 (c0 ++ (dep u).take b) := ⟨_, _, rfl⟩
                    have hnx9 : nx.length ≤ 9 := by
                      have h1 := rr_nodup stop R0 (c0 ++ (dep u).take b)
                      have h2 : ∀ x ∈ (rr stop R0 (c0 ++ (dep u).take b)).2, x < 9 := by
                        intro x hx
                        have h3 := rr_mem hx
                        rcases List.mem_append.1 h3 with h3 | h3
                        · rw [HCC0.out] at h3
                          obtain ⟨y, _, hy⟩ := List.mem_flatMap.1 h3
                          exact HD9.out y x hy
                        · exact HD9.out u x (List.mem_of_mem_take h3)
                      rw [← hRn] at h1 h2
                      exact nodup9 h1 h2
                    rw [← hRn] at hS hN3 hrs
                    simp only at hS hN3
                    have HRS := hide hrs
                    clear hv hrs hRn htb hpc
                    obtain ⟨szr, hszr, hMr⟩ := hS.re
                    have hlkr := setH_at R hv9
                    by_cases hRv : R v = true
                    · rw [hRv] at hlkr
                      have HS := hide hS
                      clear hS
                      go_wp2_with (first
                        | (at_lookup; refine wpList_look _ rfl _ _ 77 rfl 9 4 law9 Yba.underlying77 (zero4 _) rb szr _ rfl hMr _ _ rfl (keyId v) _ hlkr ?_))
                      go_roundw
                      case rel =>
                        have e : rr stop R0 (c0 ++ (dep u).take (b + 1)) = (R, nx) := by rw [HRS.out, step_pos hRv]
                        exact ⟨b + 1, N3, by omega, by go_num, by rw [e]; exact hN3, by rw [e]; exact HS.out⟩
                      case measure => simp [intOf]; omega
                    · have hRv' : R v = false := by simpa using hRv
                      rw [hRv'] at hlkr
                      have hcR := cnt9_reach hv9 hRv'
                      have hN4 : N3 + 1 ≤ 10 * k + cnt9 (fun x => x == v || R x) := by omega
                      have HS := hide hS
                      have hswl := lt_of_cell hsw
                      clear hS
                      go_upto_region 37 with (first
                        | (at_lookup; refine wpList_look _ rfl _ _ 77 rfl 9 4 law9 Yba.underlying77 (zero4 _) rb szr _ rfl hMr _ _ rfl (keyId v) _ hlkr ?_)
                        | (at_mapUpdate; refine wpList_put _ rfl _ _ _ 77 rfl 9 4 law9 Yba.underlying77 rb szr _ rfl hMr (by unfold maxLen; have := cnt9_le R; omega) string_inj _ _ (idl v) rfl rfl (keyId v) ?_; intro w2 hM2 ht2))
                      have hS2 := HS.out.reach (SetMap.put hszr hv9 hM2) ht2
                      have hsw2 : w2.cell? ⟨swb, 3, none⟩ = some (.map (some sb)) := (hS2.below.cell (p := ⟨swb, 3, none⟩) hswl).trans hsw
                      have hsub2 := HSUB.out.below hS2.below HSUB.out.lt
                      obtain ⟨szh, hszh, hMh0⟩ := HHELD.out
                      have hMh := hMh0.below hS2.below hMh0.lt
                      obtain ⟨ds, cc, hsubv, hcc⟩ := subH_at n inP co dv hv9
                      have hlkh := hMh.look law9 Yba.underlying77 (zero4 _) (keyId v)
                      rw [setH_at H hv9] at hlkh
                      have hf6 := field6
                      have hstv : stop v = (cc || H v) := by rw [HST.out, hcc]
                      have HSTV := hide hstv
                      have HS2 := hide hS2
                      clear hstv hcc hS2 hM2 ht2 hMh0 HS hMr hlkr cv
                      cases cc with
                      | true =>
                        go_wp2_with (first
                          | (at_lookup; refine wpList_look _ rfl _ _ 27 rfl 9 40 law9 Yba.underlying27 (zero40 _) sb n _ rfl hsub2 _ _ rfl (keyId v) _ hsubv ?_))
                        go_roundw
                        case rel =>
                          have e : rr stop R0 (c0 ++ (dep u).take (b + 1)) = (fun x => x == v || R x, nx) := by rw [HRS.out, step_neg hRv', HSTV.out]; rfl
                          exact ⟨b + 1, N3 + 1, by omega, by go_num, by rw [e]; exact hN4, by rw [e]; exact HS2.out⟩
                        case measure => simp [intOf]; omega
                      | false =>
                        by_cases hH : H v = true
                        · rw [hH] at hlkh
                          go_wp2_with (first
                            | (at_lookup; refine wpList_look _ rfl _ _ 27 rfl 9 40 law9 Yba.underlying27 (zero40 _) sb n _ rfl hsub2 _ _ rfl (keyId v) _ hsubv ?_))
                          go_roundw
                          case rel =>
                            have e : rr stop R0 (c0 ++ (dep u).take (b + 1)) = (fun x => x == v || R x, nx) := by rw [HRS.out, step_neg hRv', HSTV.out, hH]; rfl
                            exact ⟨b + 1, N3 + 1, by omega, by go_num, by rw [e]; exact hN4, by rw [e]; exact HS2.out⟩
                          case measure => simp [intOf]; omega
                        · have hH' : H v = false := by simpa using hH
                          rw [hH'] at hlkh
                          have HRK := hide fun w => brisk dd (by omega) w
                          obtain ⟨i0, hi0, hz0, hz1, hz2⟩ := info_parts info64
                          obtain ⟨i9, hi9, hz90, hz91, hz92⟩ := info_parts info9
                          obtain ⟨M, hM⟩ : ∃ M, M = (E1 ++ nx.map fun v => (v, r, dd)).length := ⟨_, rfl⟩
                          have hM5 : M ≤ 200000 := by rw [hM, List.length_append, List.length_map]; omega
                          have HO : Hid ((w2.alloc (.cells #[sV v, sV r, .int .i64 dd, .int .i64 (riskN dd)] 64)).ownsRow w0.heap.size 64 4 u11 M ((E1 ++ nx.map fun v => (v, r, dd)).flatMap eC)) := by rw [hM]; exact (HS2.out.alloc _).ent
                          have HNW := hide (World.news_of_block (Blk.made w2 #[sV v, sV r, .int .i64 dd, .int .i64 (riskN dd)] 64))
                          have H1 : Hid (∀ x ∈ [sV v, sV r, .int .i64 dd, .int .i64 (riskN dd)], x.oneCell' = true) := by intro x hx; simp at hx; rcases hx with rfl | rfl | rfl | rfl <;> rfl
                          have HMM := hide hM
                          have hs0 := HS2.out.below.size
                          clear hM
                          go_upto_region 38 with (first
                            | (at_lookup; refine wpList_look _ rfl _ _ 27 rfl 9 40 law9 Yba.underlying27 (zero40 _) sb n _ rfl hsub2 _ _ rfl (keyId v) _ hsubv ?_))
                          go_wp2_with fail
                          refine (HRK.out _).mono ?_
                          rintro e w3 ⟨rfl, hww⟩
                          obtain rfl : w2 = w3 := hww.symm
                          go_upto_region 39 with (at_builtin; refine wpList_append_lies _ rfl (.tmp 113) (.tmp 120) 60 rfl w0.heap.size 64 i0 (.agg #[.string ByteArray.empty, .string ByteArray.empty, .int .i64 0, .int .i64 0]) 4 48 Yba.underlying60 hi0 hz0 hz1 hz2 rfl (by decide) _ M _ rfl HO.out ⟨w2.heap.size, 0, none⟩ 1 1 _ rfl rfl HNW.out H1.out (by omega) (by unfold maxLen; omega) (by omega) (by simp; omega) _ rfl ?_; intro g2 cap2 w4 hown2 hgrow2 hat2 hlt2)
                          have hS4 := HS2.out.pushE (x := (v, r, dd)) (by rw [← HMM.out]; exact hown2) hgrow2
                          obtain ⟨nl, hnl⟩ : ∃ nl, nl = nx.length := ⟨_, rfl⟩
                          have HO2 : Hid ((w4.alloc (.cells #[sV v] 9)).ownsRow w0.heap.size 9 1 u18 nl (nx.map sV)) := by rw [hnl]; exact (hS4.alloc _).nxt
                          have HNW2 := hide (World.news_of_block (Blk.made w4 #[sV v] 9))
                          have H12 : Hid (∀ x ∈ [sV v], x.oneCell' = true) := by intro x hx; simp at hx; subst hx; rfl
                          have hnl9 : nl ≤ 9 := by rw [hnl]; exact hnx9
                          have HNL2 := hide hnl
                          have HS4 := hide hS4
                          have hs4 := hS4.below.size
                          clear hnl hS4 hown2 hgrow2 hat2 HS2 HO HNW H1
                          go_wp2_with (at_builtin; refine wpList_append_lies _ rfl (.tmp 122) (.tmp 124) 28 rfl w0.heap.size 9 i9 (.string ByteArray.empty) 1 16 Yba.underlying28 hi9 hz90 hz91 hz92 rfl (by decide) _ nl _ rfl HO2.out ⟨w4.heap.size, 0, none⟩ 1 1 _ rfl rfl HNW2.out H12.out (by omega) (by unfold maxLen; omega) (by omega) (by simp; omega) _ rfl ?_; intro g5 cap5 w5 hown5 hgrow5 hat5 hlt5)
                          go_roundw
                          case rel =>
                            have e : rr stop R0 (c0 ++ (dep u).take (b + 1)) = (fun x => x == v || R x, nx ++ [v]) := by rw [HRS.out, step_neg hRv', HSTV.out, hH']; rfl
                            have hS5 := HS4.out.pushN (x := v) (by rw [← HNL2.out]; exact hown5) hgrow5 hat5 (Nat.le_refl _)
                            refine ⟨b + 1, N3 + 1, by omega, by go_num, by rw [e]; exact hN4, ?_⟩
                            rw [e]
                            simp only [List.map_append, List.map_cons, List.map_nil, ← List.append_assoc]
                            have e1 := HMM.out
                            have e2 := HNL2.out
                            subst e1 e2
                            exact hS5
                          case measure => simp [intOf]; omega
                  · have hg4 : decide ((b : Int) < (P : Int)) = false := decide_eq_false (by omega)
                    obtain rfl : b = P := by omega
                    go_wp2
                    go_roundw
                    case rel =>
                      have e : (lev.take (a + 1)).flatMap dep = c0 ++ (dep u).take b := by rw [HTA.out, HCC0.out, HP.out, List.take_length]
                      exact ⟨a + 1, N3, by omega, by go_num, by rw [e]; exact hN3, by rw [e]; exact hS⟩
                    case measure => simp [intOf]; omega
              · have hg3 : decide ((a : Int) < (L : Int)) = false := decide_eq_false (by omega)
                obtain rfl : a = L := by omega
                go_wp2
                go_roundw
                case rel =>
                  have e : rr stop R0 ((lev.take a).flatMap dep) = st cand stop r (d + 1) := by
                    rw [HL.out, List.take_length, st, rr, HR0.out, HLEV.out, HC.out]
                  rw [e] at hN2 hS
                  have e2 : E1 ++ (st cand stop r (d + 1)).2.map (fun v => (v, r, dd)) = E ++ (ent cand stop r (d + 1)).map fun p => (p.1, r, p.2) := by
                    rw [HE1.out, ent, List.map_append, List.map_map, List.append_assoc, HDD.out]
                    rfl
                  rw [e2] at hS
                  refine ⟨d + 1, N2, by omega, by rw [HDD.out]; go_num, hN2, hS.turn⟩
                case measure => simp [intOf]; have := HDD.out; omega
          · have hg2 : decide ((0 : Int) < (L : Int)) = false := decide_eq_false (by omega)
            obtain rfl : L = 0 := by omega
            clear hlev hR0 hE1 hL hdd
            go_wp2
            go_roundw
            case rel =>
              have h0 : (st cand stop r d).2 = [] := by
                have h1 := HL.out
                rw [HLEV.out] at h1
                exact List.length_eq_zero_iff.1 h1.symm
              have he : ent cand stop r 10 = ent cand stop r d := by
                have := (ent_stop HC0.out h0 (10 - d)).1
                rwa [show d + (10 - d) = 10 by omega] at this
              have e : rootsE cand stop (rts.take (k + 1)) = (Wd', E1) := by
                rw [HTK.out, rootsE_snoc, HSTE.out, rE, if_neg (by simp [hw']), he, HWD.out, HE1.out]
              have := cnt9_le R0
              exact ⟨k + 1, N', by omega, by go_num, by omega, by rw [e]; show E1.length ≤ _; omega, by rw [e]; exact ⟨hS.below, hS.wk, hS.ent⟩⟩
            case measure => simp [intOf]; omega
    · obtain rfl : k = nr := by omega
      have hg1 : decide ((k : Int) < (k : Int)) = false := decide_eq_false (by omega)
      go_wp2
      go_ret
      have e : rts.take k = rts := by rw [HNL.out]; exact List.take_length
      rw [e] at hC
      exact ⟨_, _, rfl, hC.ent.mono hbw.size, hbw.trans (hC.below.mono hbw.size), rfl⟩
end Go.Proofs.Ybulkcstq
