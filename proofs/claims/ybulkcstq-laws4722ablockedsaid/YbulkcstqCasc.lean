/-
  OUR OWN. 'cascade' (function 7), whole.
-/
import Derived.Test.YbulkcstqWrk
namespace Go.Proofs.Ybulkcstq
open Go.RowKit Go.Maps Go.WideMaps

/-- The swarm as 'cascade' reads it. -/
structure SwOk (w : World) (swb sb nw nt wc tc : Nat) (wa ta : Option Addr) (WL : List (Nat × Bool)) (TL : List Nat) : Prop where
  c0 : w.cell? ⟨swb, 0, none⟩ = some (.slice wa nw wc)
  c1 : w.cell? ⟨swb, 1, none⟩ = some (.slice ta nt tc)
  c3 : w.cell? ⟨swb, 3, none⟩ = some (.map (some sb))
  wr : w.ownsRow 0 55 10 (.slice wa nw wc) nw (WL.flatMap wC)
  tr : w.ownsRow 0 55 10 (.slice ta nt tc) nt (TL.flatMap tC)
  wn : nw = WL.length
  tn : nt = TL.length
  w9 : ∀ q ∈ WL, q.1 < 9
  t9 : ∀ k ∈ TL, k < 9
  nw1 : nw ≤ 1024
  nt1 : nt ≤ 1024
theorem SwOk.below {w w1 : World} {swb sb nw nt wc tc : Nat} {wa ta : Option Addr} {WL : List (Nat × Bool)} {TL : List Nat} (h : SwOk w swb sb nw nt wc tc wa ta WL TL) (hb : Below w.heap.size w w1) : SwOk w1 swb sb nw nt wc tc wa ta WL TL :=
  ⟨(hb.cell (p := ⟨swb, 0, none⟩) (lt_of_cell h.c0)).trans h.c0, (hb.cell (p := ⟨swb, 1, none⟩) (lt_of_cell h.c1)).trans h.c1, (hb.cell (p := ⟨swb, 3, none⟩) (lt_of_cell h.c3)).trans h.c3, h.wr.kept (below_grown hb) (own_or _), h.tr.kept (below_grown hb) (own_or _), h.wn, h.tn, h.w9, h.t9, h.nw1, h.nt1⟩

theorem onIdK_congr {h h' : Nat → Option Value} {l : List UInt8} : ∀ {k : Nat}, (∀ u, u < k → h u = h' u) → onIdK h k l = onIdK h' k l
  | 0, _ => rfl
  | k + 1, e => by rw [onIdK, onIdK, e k (by omega), onIdK_congr (fun u hu => e u (by omega))]
theorem Deps.cut9 {w : World} {db base sz N : Nat} {rv : Nat → Value} {dep : Nat → List Nat} (h : Deps w db base sz N rv dep) : Deps w db base sz N rv (fun u => if u < 9 then dep u else []) := by
  have e : ∀ u, u < 9 → (if u < 9 then dep u else []) = dep u := fun u hu => if_pos hu
  refine ⟨h.map.congr (fun l => onIdK_congr fun u hu => ?_), ⟨fun u hu => ?_, h.rows.apart⟩, fun u hu hn => ?_, fun u hu => ?_, h.szN, h.lt⟩
  · simp only [depH, e u hu]
  · simp only [e u hu]; exact h.rows.own u hu
  · simp only [e u hu] at hn; exact h.nil u hu hn
  · simp only [e u hu]; exact h.len u hu
theorem bodyPost_mono {fn : Func} {R R' : Ending → World → Prop} (h : ∀ e w, R e w → R' e w) {x : Exit} {a : Act} {w : World} (hq : bodyPost Yba.prog fn R x a w) : bodyPost Yba.prog fn R' x a w := by
  cases x <;> simp only [bodyPost] at hq ⊢
  all_goals first
    | exact hq
    | (obtain ⟨h1, v, h2, h3⟩ := hq; exact ⟨h1, v, h2, h _ _ h3⟩)
    | (obtain ⟨h1, h3⟩ := hq; exact ⟨h1, h _ _ h3⟩)
    | exact h _ _ hq

set_option maxRecDepth 100000 in
set_option maxHeartbeats 4000000 in
theorem cascade_walk (swb sb nw nt wc tc n nr rc : Nat) (wa ta ra : Option Addr) (WL : List (Nat × Bool)) (TL rts : List Nat) (inP co : Nat → Bool) (dv : Nat → Value) (dl : Nat → List Nat) (w : World)
    (hW : SwOk w swb sb nw nt wc tc wa ta WL TL) (hS : SubOk w sb n inP co dv dl) (hR : w.ownsRow 0 9 1 (.slice ra nr rc) nr (rts.map sV)) (hr9 : ∀ r ∈ rts, r < 9) (hnr : nr ≤ 1024) :
    Calls Yba.prog 7 #[.pointer (some ⟨swb, 0, none⟩), .slice ra nr rc] w fun e w' => ∃ ev E dep, e = .returned ev ∧ w'.ownsRow w.heap.size 64 4 ev E.length (E.flatMap eC) ∧ Below w.heap.size w w' ∧
      (∀ u x, x ∈ dep u ↔ u < 9 ∧ x < n ∧ pIn n inP u = true ∧ u ∈ dl x) ∧ E = (rootsE (fun l => l.flatMap dep) (fun v => (decide (v < n) && co v) || heldS WL TL v) rts).2 := by
  have hnl : nr = rts.length := by have := hR.1; simpa using this.symm
  by_cases h0 : nr = 0
  · subst h0
    have e0 : rts = [] := List.length_eq_zero_iff.1 hnl.symm
    subst e0
    clear hnl hR hW hS
    go_enter Yba.func7, Yba.ntmps7
    go_wp2
    go_ret
    refine ⟨_, [], fun u => (List.range n).filter fun x => decide (u < 9) && pIn n inP u && decide (u ∈ dl x), rfl, World.ownsRow_nil _ _ _ _, Below.refl _ _, fun u x => ?_, rfl⟩
    simp only [List.mem_filter, List.mem_range, Bool.and_eq_true, decide_eq_true_eq]
    exact ⟨fun h => ⟨h.2.1.1, h.1, h.2.1.2, h.2.2⟩, fun h => ⟨h.2.1, ⟨h.1, h.2.2.1⟩, h.2.2.2⟩⟩
  · have hg0 : ((nr : Int) == 0) = false := by simp; omega
    have hmk := @run_makeMap Yba.prog
    have C := hide (deps_walk sb n inP co dv dl w hS)
    have HW := hide hW
    have c3 := hW.c3
    have HS := hide hS
    have HR := hide hR
    have HNL := hide hnl
    clear hW hS hR hnl
    go_enter Yba.func7, Yba.ntmps7
    go_wp2_with fail
    refine C.out.mono ?_
    rintro e w1 ⟨db, base, szd, Nd, rv, dep, rfl, hdb, hNd, hDeps, hb1, hdm⟩
    have hW1 := HW.out.below hb1
    have d0 := hW1.c0
    have hW2 := hW1.below ((Below.refl _ _).alloc (Nat.le_refl _) (.map #[] 0))
    have d0' := hW2.c0
    clear C d0
    go_wp2
    have HW1 := hide hW1
    have hM0 : SetMap (w1.alloc (.map #[] 0)) w1.heap.size 0 (heldW (WL.take 0)) := SetMap.made w1
    have hw1024 := hW1.nw1
    clear hW1 hW2 d0' hmk
    go_loopw [37] (fun iv wr => ∃ (k N : Nat), k ≤ nw ∧ iv = .int .i64 k ∧ N ≤ k ∧ SetMap wr w1.heap.size N (heldW (WL.take k)) ∧ Below w1.heap.size w1 wr) (fun iv _ => nw - (intOf iv).toNat)
    case atStart => exact ⟨0, 0, Nat.zero_le _, rfl, Nat.le_refl _, hM0, (Below.refl _ _).alloc (Nat.le_refl _) _⟩
    case round =>
      clear hM0
      obtain ⟨k, N, hk, rfl, hN, hM, hbr⟩ := hrel
      by_cases hkn : k < nw
      · have hg1 : decide ((k : Int) < (nw : Int)) = true := decide_eq_true (by omega)
        obtain ⟨wg, wcap, hv, _, hwgl⟩ := HW1.out.wr.form (by omega)
        simp only [Value.slice.injEq] at hv
        obtain ⟨rfl, _, rfl⟩ := hv
        have hkl : k < WL.length := by rw [← HW1.out.wn]; exact hkn
        obtain ⟨q1, q2, hq⟩ : ∃ q1 q2, WL[k]? = some (q1, q2) := ⟨WL[k].1, WL[k].2, List.getElem?_eq_getElem hkl⟩
        have hcs := wC_at HW1.out.wr hq hkn
        have hall : ∀ j, j < 10 → wr.cell? ⟨wg, k * 10 + j, none⟩ = (wC (q1, q2))[j]? := fun j hj => (hbr.cell (p := ⟨wg, k * 10 + j, none⟩) hwgl).trans (hcs j hj)
        have x0 : wr.cell? ⟨wg, k * 10, none⟩ = some (.string ⟨#[119]⟩) := hall 0 (by omega)
        have x1 : wr.cell? ⟨wg, k * 10 + 1, none⟩ = some (.string (idS q1)) := hall 1 (by omega)
        have x2 : wr.cell? ⟨wg, k * 10 + 2, none⟩ = some (.bool q2) := hall 2 (by omega)
        have x3 : wr.cell? ⟨wg, k * 10 + 3, none⟩ = some (.int .u64 0) := hall 3 (by omega)
        have x4 : wr.cell? ⟨wg, k * 10 + 4, none⟩ = some (.int .i64 0) := hall 4 (by omega)
        have x5 : wr.cell? ⟨wg, k * 10 + 5, none⟩ = some (.pointer none) := hall 5 (by omega)
        have x6 : wr.cell? ⟨wg, k * 10 + 6, none⟩ = some (.int .u64 0) := hall 6 (by omega)
        have x7 : wr.cell? ⟨wg, k * 10 + 7, none⟩ = some (.int .i64 0) := hall 7 (by omega)
        have x8 : wr.cell? ⟨wg, k * 10 + 8, none⟩ = some (.pointer none) := hall 8 (by omega)
        have x9 : wr.cell? ⟨wg, k * 10 + 9, none⟩ = some (.string ByteArray.empty) := hall 9 (by omega)
        have hq9 : q1 < 9 := HW1.out.w9 (q1, q2) (List.mem_of_getElem? hq)
        have htk : heldW (WL.take (k + 1)) = fun x => (q2 && q1 == x) || heldW (WL.take k) x := by
          have e : WL.take (k + 1) = WL.take k ++ [(q1, q2)] := by
            rw [List.take_succ_eq_append_getElem hkl]
            rw [List.getElem?_eq_getElem hkl] at hq
            rw [Option.some.inj hq]
          rw [e, heldW_snoc]
        have HTK := hide htk
        obtain ⟨szh, hszh, hMh⟩ := hM
        have hMh1 := hMh.alloc (.cells #[.string ⟨#[119]⟩, .string (idS q1), .bool q2, .int .u64 0, .int .i64 0, .pointer none, .int .u64 0, .int .i64 0, .pointer none, .string ByteArray.empty] 55)
        have HB := hide hbr
        have hsz1 := hbr.size
        have HBB := hide (hbr.alloc hsz1 (.cells #[.string ⟨#[119]⟩, .string (idS q1), .bool q2, .int .u64 0, .int .i64 0, .pointer none, .int .u64 0, .int .i64 0, .pointer none, .string ByteArray.empty] 55))
        clear hall hcs htk hq hbr
        cases q2 with
        | true =>
          go_wp2_with (first
            | (at_mapUpdate; refine wpList_put _ rfl _ _ _ 77 rfl 9 4 law9 Yba.underlying77 w1.heap.size szh _ rfl hMh1 (by unfold maxLen; omega) string_inj _ _ (idl q1) rfl rfl (keyId q1) ?_; intro w3 hM3 ht3))
          refine ⟨⟨k + 1, N + 1, by omega, by go_num, by omega, ?_, HBB.out.grown ht3.grown HBB.out.size (fun g hg => by cases hg; exact Nat.le_refl _)⟩, by simp [intOf]; omega⟩
          rw [HTK.out]
          have hp := SetMap.put hszh hq9 hM3
          have e : (fun x => (true && q1 == x) || heldW (WL.take k) x) = fun x => x == q1 || heldW (WL.take k) x := by funext x; rw [Bool.true_and, Bool.beq_comm]
          rw [e]
          exact hp
        | false =>
          go_wp2
          go_roundw
          case rel => exact ⟨k + 1, N, by omega, by go_num, by omega, ⟨szh, hszh, by rw [HTK.out]; simpa using hMh1⟩, HB.out.alloc (by omega) _⟩
          case measure => simp [intOf]; omega
      · obtain rfl : k = nw := by omega
        have hg1 : decide ((k : Int) < (k : Int)) = false := by simp
        have hW3 := HW1.out.below hbr
        have c1 := hW3.c1
        have HWN := hide hW3.wn
        have ewk : heldW (WL.take k) = heldS WL (TL.take 0) := by
          funext x
          rw [HWN.out, List.take_length]
          simp [heldS]
        rw [ewk] at hM
        have hnt1 := hW3.nt1
        have HW3 := hide hW3
        clear hkn hg1 ewk hW3
        go_wp2_with fail
        go_loopw [52] (fun iv wq => ∃ (j N2 : Nat), j ≤ nt ∧ iv = .int .i64 j ∧ N2 ≤ k + j ∧ SetMap wq w1.heap.size N2 (heldS WL (TL.take j)) ∧ Below w1.heap.size w1 wq) (fun iv _ => nt - (intOf iv).toNat)
        case atStart => exact ⟨0, N, Nat.zero_le _, rfl, by omega, hM, hbr⟩
        case round =>
          clear hM hbr
          clear c1
          obtain ⟨j, N2, hj, rfl, hN2, hM, hbq⟩ := hrel
          by_cases hjn : j < nt
          · have hg1 : decide ((j : Int) < (nt : Int)) = true := decide_eq_true (by omega)
            have HW4 := hide (HW1.out.below hbq)
            obtain ⟨wg, wcap, hv, _, hwgl⟩ := HW4.out.tr.form (by omega)
            simp only [Value.slice.injEq] at hv
            obtain ⟨rfl, _, rfl⟩ := hv
            have hjl : j < TL.length := by rw [← HW1.out.tn]; exact hjn
            obtain ⟨q1, hq⟩ : ∃ q1, TL[j]? = some q1 := ⟨TL[j], List.getElem?_eq_getElem hjl⟩
            have hall := tC_at HW4.out.tr hq hjn
            have x0 : wr.cell? ⟨wg, j * 10, none⟩ = some (.string ByteArray.empty) := hall 0 (by omega)
            have x1 : wr.cell? ⟨wg, j * 10 + 1, none⟩ = some (.string (idS q1)) := hall 1 (by omega)
            have x2 : wr.cell? ⟨wg, j * 10 + 2, none⟩ = some (.bool false) := hall 2 (by omega)
            have x3 : wr.cell? ⟨wg, j * 10 + 3, none⟩ = some (.int .u64 0) := hall 3 (by omega)
            have x4 : wr.cell? ⟨wg, j * 10 + 4, none⟩ = some (.int .i64 0) := hall 4 (by omega)
            have x5 : wr.cell? ⟨wg, j * 10 + 5, none⟩ = some (.pointer none) := hall 5 (by omega)
            have x6 : wr.cell? ⟨wg, j * 10 + 6, none⟩ = some (.int .u64 0) := hall 6 (by omega)
            have x7 : wr.cell? ⟨wg, j * 10 + 7, none⟩ = some (.int .i64 0) := hall 7 (by omega)
            have x8 : wr.cell? ⟨wg, j * 10 + 8, none⟩ = some (.pointer none) := hall 8 (by omega)
            have x9 : wr.cell? ⟨wg, j * 10 + 9, none⟩ = some (.string ByteArray.empty) := hall 9 (by omega)
            have hq9 : q1 < 9 := HW1.out.t9 q1 (List.mem_of_getElem? hq)
            have htk : heldS WL (TL.take (j + 1)) = fun x => x == q1 || heldS WL (TL.take j) x := by
              have e : TL.take (j + 1) = TL.take j ++ [q1] := by
                rw [List.take_succ_eq_append_getElem hjl]
                rw [List.getElem?_eq_getElem hjl] at hq
                rw [Option.some.inj hq]
              rw [e, heldS_snoc]
              funext x
              rw [Bool.beq_comm]
            have HTK := hide htk
            obtain ⟨szh, hszh, hMh⟩ := hM
            have hMh1 := hMh.alloc (.cells #[.string ByteArray.empty, .string (idS q1), .bool false, .int .u64 0, .int .i64 0, .pointer none, .int .u64 0, .int .i64 0, .pointer none, .string ByteArray.empty] 55)
            have hsz1 := hbq.size
            have HBB := hide (hbq.alloc hsz1 (.cells #[.string ByteArray.empty, .string (idS q1), .bool false, .int .u64 0, .int .i64 0, .pointer none, .int .u64 0, .int .i64 0, .pointer none, .string ByteArray.empty] 55))
            clear hall htk hq hbq
            go_wp2_with (first
              | (at_mapUpdate; refine wpList_put _ rfl _ _ _ 77 rfl 9 4 law9 Yba.underlying77 w1.heap.size szh _ rfl hMh1 (by unfold maxLen; omega) string_inj _ _ (idl q1) rfl rfl (keyId q1) ?_; intro w3 hM3 ht3))
            refine ⟨⟨j + 1, N2 + 1, by omega, by go_num, by omega, ?_, HBB.out.grown ht3.grown HBB.out.size (fun g hg => by cases hg; exact Nat.le_refl _)⟩, by simp [intOf]; omega⟩
            rw [HTK.out]
            exact SetMap.put hszh hq9 hM3
          · obtain rfl : j = nt := by omega
            have hg1 : decide ((j : Int) < (j : Int)) = false := by simp
            have ewk : heldS WL (TL.take j) = heldS WL TL := by
              rw [(HW1.out.tn : j = TL.length), List.take_length]
            rw [ewk] at hM
            have HM := hide hM
            have HBQ := hide hbq
            have hmk := @run_makeMap Yba.prog
            clear hjn ewk hM hbq
            go_upto_region 17 with fail
            go_cut [12] (fun v wc => v = .map (some wr.heap.size) ∧ wc = wr.alloc (.map #[] 0))
            case first =>
              go_wp2_with fail
              go_meet
              case rel => exact ⟨rfl, rfl⟩
            case rest =>
            obtain ⟨rfl, rfl⟩ := hcut
            have hS4 := HS.out.map.below (hb1.trans (HBQ.out.mono hb1.size)) HS.out.map.lt
            have hR4 := HR.out.kept (below_grown (hb1.trans (HBQ.out.mono hb1.size))) (own_or _)
            have hmem : ∀ u x, x ∈ (if u < 9 then dep u else []) ↔ u < 9 ∧ x < n ∧ pIn n inP u = true ∧ u ∈ dl x := by
              intro u x
              by_cases hu : u < 9
              · rw [if_pos hu, hdm u hu x]
                exact ⟨fun h => ⟨hu, h⟩, fun h => h.2⟩
              · rw [if_neg hu]
                exact ⟨fun h => absurd h (List.not_mem_nil), fun h => absurd h.1 hu⟩
            refine cas_tail w wr _ swb db w1.heap.size nr rc sb n base szd Nd N2 ra inP co (heldS WL TL) dv rv (fun u => if u < 9 then dep u else []) rts (fun a wx hx => ?_) (HW1.out.below HBQ.out).c3 hS4 (hDeps.cut9.below HBQ.out) HM.out hR4 hr9 (fun u v hv => ?_) hnr hNd (hb1.trans (HBQ.out.mono hb1.size))
            · have hy : (restOf Yba.f7.body 8).wp Yba.prog (bodyPost Yba.prog Yba.f7 fun e w' => ∃ ev E dep, e = .returned ev ∧ w'.ownsRow w.heap.size 64 4 ev E.length (E.flatMap eC) ∧ Below w.heap.size w w' ∧
                  (∀ u x, x ∈ dep u ↔ u < 9 ∧ x < n ∧ pIn n inP u = true ∧ u ∈ dl x) ∧ E = (rootsE (fun l => l.flatMap dep) (fun v => (decide (v < n) && co v) || heldS WL TL v) rts).2) a wx :=
                Code.wp_mono (fun e a w q => bodyPost_mono (fun e w ⟨ev, E, h1, h2, h3, h4⟩ => ⟨ev, E, fun u => if u < 9 then dep u else [], h1, h2, h3, hmem, h4⟩) q) hx
              revert hy
              clear hx
              revert a wx
              assumption
            have h8 := HS.out.n8
            have := ((hmem u v).1 hv).2.1
            omega
end Go.Proofs.Ybulkcstq
