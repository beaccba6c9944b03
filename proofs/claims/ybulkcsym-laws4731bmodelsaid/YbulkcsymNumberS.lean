/-
  OUR OWN. '(*Numbering).number' (18) at a small integer; '(*Numbering).Number' (9).
-/
import Derived.Test.YbulkcsymNumber
import Derived.OpenShut
namespace Go.Proofs.Ybulkcsym.Numb
open Go.RowKit Go.Maps Go.Proofs.Ybulkcsym

/-- The small list behind the copy into the grown one. -/
theorem grown_list {d : List Int} {n L : Nat} (hL : n ≤ L) (h65 : L ≤ 65536) (hall : ∀ v, v < 65536 → n ≤ v → idx d (v : Int) = none) :
    splice (madeCells #[Value.int .i64 0] L).toList 0 ((List.range n).map fun v => Value.int .i64 (smallAt d v)) = (List.range L).map fun v => Value.int .i64 (smallAt d v) := by
  unfold splice
  apply List.ext_getElem?
  intro i
  simp only [List.take_zero, List.nil_append, Nat.zero_add, List.length_map, List.length_range]
  by_cases h1 : i < n
  · rw [List.getElem?_append_left (by simpa using h1)]
    simp [h1, show i < L by omega]
  · rw [List.getElem?_append_right (by simp; omega)]
    simp only [List.length_map, List.length_range, List.getElem?_drop]
    by_cases h2 : i < L
    · have hi := hall i (by omega) (by omega)
      rw [show n + (i - n) = i by omega]
      have hz : smallAt d i = 0 := by simp [smallAt, hi]
      rw [List.getElem?_eq_getElem (by simp [size_madeCells]; omega)]
      simp [h2, hz, madeCells, Nat.mod_one]
    · rw [List.getElem?_eq_none (by simp [size_madeCells]; omega), List.getElem?_eq_none (by simp; omega)]

set_option maxRecDepth 100000 in
set_option maxHeartbeats 1000000 in
theorem number_small (w0 w : World) (N base : Nat) (d ld : List Int) (sv mv vv dd : Value) (n v : Nat) (h : St w0 w N base d d sv mv vv n dd ld) (hd : d.length < 1024) (hv : v < 65536) (hi : idx d (v : Int) = none) :
    Calls Yba.prog 18 #[.pointer (some ⟨N, 0, none⟩), .int .i64 (v : Int)] w fun e w' => e = .returned (.int .i64 (d.length : Nat)) ∧ ∃ sv' mv' vv' n', St w0 w' N base (d ++ [(v : Int)]) (d ++ [(v : Int)]) sv' mv' vv' n' dd ld := by
  have hf := find_small w N base d sv mv vv n v h.num hv (by omega)
  rw [show findN d v = 0 by simp [findN, hi], show findB d v = false by simp [findB, hi]] at hf
  have HF := hide hf
  have HI := hide hi
  obtain ⟨HO, HN, H1, HR⟩ := pre_append h v
  obtain ⟨i0, hi2, hz0, hz1, hz2⟩ := info_parts info2
  obtain ⟨va, vc, hvv, _, _⟩ := ownsRow_slice h.num.vals
  have c2 : w.cell? ⟨N, 2, none⟩ = some vv := h.num.self.cell rfl
  have hNl := h.num.self.lt
  have hroom := h.room
  have hdl : (d.length : Int) < 1024 := by omega
  have h65 : (v : Int) < 65536 := by omega
  have h65' : decide ((65536 : Int) ≤ (v : Int)) = false := decide_eq_false (by omega)
  have hneg : decide ((v : Int) < 0) = false := decide_eq_false (by omega)
  have htop := h.num.top
  clear hf hi
  obtain ⟨L, hL⟩ : ∃ L, L = d.length := ⟨_, rfl⟩
  have HLL := hide hL
  rw [← hL] at HO hvv hd hdl ⊢
  clear hL
  rw [hvv] at c2 HO HR
  have HV := hide hvv
  clear hvv
  go_enter Yba.func18, Yba.ntmps18
  go_upto_region 5 with (go_at_call 17; refine HF.out.mono ?_; rintro e w' ⟨rfl, hww⟩; obtain rfl : w = w' := hww.symm)
  go_cut [] (fun wc => ∃ vv', St w0 wc N base d (d ++ [(v : Int)]) sv mv vv' n dd ld)
  case first =>
    go_wp2_with (at_builtin; refine wpList_append_lies _ rfl (.tmp 26) (.tmp 28) 39 rfl base 2 i0 (.int .i64 0) 1 8 Yba.underlying39 hi2 hz0 hz1 hz2 rfl (by decide) _ L _ rfl HO.out ⟨w.heap.size, 0, none⟩ 1 1 _ rfl rfl HN.out H1.out (by omega) (by unfold maxLen; omega) (by omega) (by simp; omega) _ rfl ?_; intro g cap w1 hown1 hgrow1 hat1 hlt1; obtain ⟨c21, f21⟩ := HR.out w1 hgrow1)
    go_meet
    case rel =>
      have e := HLL.out
      subst e
      have e2 := HV.out
      subst e2
      exact ⟨_, h.append hown1 hgrow1 (by simp) hat1⟩
  case rest =>
    obtain ⟨vv', hS⟩ := hcut
    clear HO HN H1 HR HF c2 h HV
    have c0 : wc.cell? ⟨N, 0, none⟩ = some sv := hS.num.self.cell rfl
    have f0 : wc.frozen? ⟨N, 0, none⟩ = false := hS.num.self.free 0
    have hNc := hS.num.self.lt
    by_cases hvn : v < n
    · obtain ⟨g, hsv, hB⟩ : ∃ g, sv = .slice (some ⟨g, 0, none⟩) n n ∧ Blk wc g 3 ((List.range n).map fun v => Value.int .i64 (smallAt d v)) := by
        rcases hS.num.sml with ⟨_, e⟩ | ⟨g, e, _, hB⟩
        · omega
        · exact ⟨g, e, hB⟩
      subst hsv
      have hle : decide (n ≤ v) = false := decide_eq_false (by omega)
      have hvn' : (v : Int) < (n : Int) := by omega
      have hcv := hB.cell (i := v) (v := .int .i64 (smallAt d v)) (by simp [hvn])
      have hfv := hB.free v
      go_wp2
      go_ret
      refine ⟨rfl, .slice (some ⟨g, 0, none⟩) n n, mv, vv', n, ?_⟩
      have e := HLL.out
      subst e
      exact hS.smallSet hvn HI.out
    · have hge : decide (n ≤ v) = true := decide_eq_true (by omega)
      obtain ⟨a, hsv, hsa⟩ : ∃ a, sv = .slice a n n ∧ (0 < n → ∃ g, a = some ⟨g, 0, none⟩ ∧ Blk wc g 3 ((List.range n).map fun v => Value.int .i64 (smallAt d v))) := by
        rcases hS.num.sml with ⟨e, e0⟩ | ⟨g, e, _, hB⟩
        · exact ⟨none, by rw [e, e0], fun h => by omega⟩
        · exact ⟨_, e, fun _ => ⟨g, rfl, hB⟩⟩
      have HSA := hide hsa
      clear hsa
      subst hsv
      obtain ⟨wa, hwa⟩ : ∃ wa : World, wa = wc := ⟨_, rfl⟩
      subst hwa
      have hmk : ∀ (M : Nat), M ≤ 65536 → ∀ (C : Int), C = (M : Int) → ∀ w : World, (Instr.makeSlice 22 (.int .i64 C) (.int .i64 C)).run Yba.prog w = .ok (.slice (some ⟨w.heap.size, 0, none⟩) M M) (w.alloc (.cells (madeCells #[.int .i64 0] M) 3)) := by
        intro M hM C hC w
        subst hC
        exact run_make_row' (P := Yba.prog) 22 3 (.int .i64 0) 8 Yba.underlying22 info3' rfl .i64 .i64 M (by omega) (by omega) w
      have HMK := hide hmk
      clear hmk
      go_upto_region 12 with fail
      go_cut [8] (fun s8 wx => ∃ M : Nat, v < M ∧ n ≤ M ∧ M ≤ 65536 ∧ s8 = .slice (some ⟨wa.heap.size, 0, none⟩) M M ∧ wx = wa.alloc (.cells (madeCells #[.int .i64 0] M) 3))
      case first =>
        by_cases k1 : (v : Int) + 1 < 2 * (n : Int)
        · by_cases k2 : 2 * (n : Int) < 65536
          · have hm := HMK.out (2 * n) (by omega) (2 * (n : Int)) (by omega)
            go_wp2_with fail
            go_meet
            case rel => exact ⟨2 * n, by omega, by omega, by omega, rfl, rfl⟩
          · obtain ⟨M0, hM0⟩ : ∃ M0 : Nat, M0 = 65536 := ⟨_, rfl⟩
            have hm := HMK.out M0 (by omega) 65536 (by omega)
            have b1 : v < M0 := by omega
            have b2 : n ≤ M0 := by omega
            have b3 : M0 ≤ 65536 := by omega
            clear hM0
            go_wp2_with fail
            go_meet
            case rel => exact ⟨M0, b1, b2, b3, rfl, rfl⟩
        · by_cases k3 : (v : Int) + 1 < 65536
          · have hm := HMK.out (v + 1) (by omega) ((v : Int) + 1) (by omega)
            go_wp2_with fail
            go_meet
            case rel => exact ⟨v + 1, by omega, by omega, by omega, rfl, rfl⟩
          · obtain ⟨M0, hM0⟩ : ∃ M0 : Nat, M0 = 65536 := ⟨_, rfl⟩
            have hm := HMK.out M0 (by omega) 65536 (by omega)
            have b1 : v < M0 := by omega
            have b2 : n ≤ M0 := by omega
            have b3 : M0 ≤ 65536 := by omega
            clear hM0
            go_wp2_with fail
            go_meet
            case rel => exact ⟨M0, b1, b2, b3, rfl, rfl⟩
      case rest =>
        obtain ⟨M, hvM, hnM, hM65, rfl, rfl⟩ := hcut
        have HG : Hid ((wa.alloc (.cells (madeCells #[.int .i64 0] M) 3)).heap[wa.heap.size]? = some (.cells (madeCells #[.int .i64 0] M).toList.toArray 3 (0, 0))) := Blk.made wa _ 3
        have HP : Hid (0 < ((List.range n).map fun v => Value.int .i64 (smallAt d v)).length → some (⟨wa.heap.size, 0, none⟩ : Addr) = some ⟨wa.heap.size, 0, none⟩ ∧ ∃ ad, a = some ad ∧ ∀ j u, ((List.range n).map fun v => Value.int .i64 (smallAt d v))[j]? = some u → (wa.alloc (.cells (madeCells #[.int .i64 0] M) 3)).cell? (ad.add j) = some u) := by
          intro h0
          obtain ⟨g, hga, hB⟩ := HSA.out (by simpa using h0)
          refine ⟨rfl, _, hga, fun j u hu => ?_⟩
          rw [show (⟨g, 0, none⟩ : Addr).add j = ⟨g, j, none⟩ from by simp [Addr.add]; omega]
          exact (hB.alloc _).cell hu
        have HN : Hid (((List.range n).map fun v => Value.int .i64 (smallAt d v)).length = Nat.min n M) := by show _ = _; rw [List.length_map, List.length_range]; exact (Nat.min_eq_left hnM).symm
        have HLn : Hid (0 + ((List.range n).map fun v => Value.int .i64 (smallAt d v)).length ≤ (madeCells #[.int .i64 0] M).toList.length) := by show _ ≤ _; simp [size_madeCells]; omega
        have HO : Hid (∀ u ∈ (List.range n).map fun v => Value.int .i64 (smallAt d v), u.oneCell' = true) := by intro u hu; obtain ⟨y, _, rfl⟩ := List.mem_map.1 hu; rfl
        have HZ := hide (grown_list hnM hM65 hS.num.all)
        have HQ : Hid (∀ w2 : World, w2.heap[wa.heap.size]? = some (.cells (splice (madeCells #[.int .i64 0] M).toList 0 ((List.range n).map fun v => Value.int .i64 (smallAt d v))).toArray 3 (0, 0)) → Below wa.heap.size (wa.alloc (.cells (madeCells #[.int .i64 0] M) 3)) w2 →
            w2.cell? ⟨N, 0, none⟩ = some (.slice a n n) ∧ w2.frozen? ⟨N, 0, none⟩ = false ∧ w2.cell? ⟨wa.heap.size, v, none⟩ = some (.int .i64 (smallAt d v)) ∧ w2.frozen? ⟨wa.heap.size, v, none⟩ = false ∧ Below wa.heap.size wa w2 ∧ Blk w2 wa.heap.size 3 ((List.range M).map fun v => Value.int .i64 (smallAt d v))) := by
          intro w2 hg hb
          have hb3 : Below wa.heap.size wa w2 := ((Below.refl _ _).alloc (Nat.le_refl _) _).trans hb
          rw [HZ.out] at hg
          have hBk : Blk w2 wa.heap.size 3 ((List.range M).map fun v => Value.int .i64 (smallAt d v)) := hg
          have hs := hS.num.self.below hb3 hNc
          exact ⟨hs.cell rfl, hs.free 0, hBk.cell (by simp [hvM]), hBk.free v, hb3, hBk⟩
        have HM65 := hide hM65
        have hvM' : (v : Int) < (M : Int) := by omega
        clear hM65 h65 h65' hneg htop hv
        go_wp2_with (refine wpList_copy_splice rfl (.tmp 72) (.tmp 76) 22 22 rfl 3 Yba.underlying22 (by kernel_rfl) _ _ _ _ _ _ rfl rfl wa.heap.size 0 (madeCells #[.int .i64 0] M).toList 3 HG.out ((List.range n).map fun v => Value.int .i64 (smallAt d v)) HN.out HP.out HLn.out HO.out wa.heap.size (wa.alloc (.cells (madeCells #[.int .i64 0] M) 3)) (Below.refl _ _) (Nat.le_refl _) ?_; intro w2 HG2 hB2; obtain ⟨q1, q2, q3, q4, hb4, hBk⟩ := HQ.out w2 HG2.out hB2)
        go_ret
        refine ⟨rfl, .slice (some ⟨wa.heap.size, 0, none⟩) M M, mv, vv', M, ?_⟩
        have e := HLL.out
        subst e
        exact (hS.smallGrow hnM HM65.out hb4 rfl hBk).smallSet hvM HI.out

/-- '(*Numbering).number'. -/
theorem number_any (w0 w : World) (N base : Nat) (d ld : List Int) (sv mv vv dd : Value) (n : Nat) (x : Int) (h : St w0 w N base d d sv mv vv n dd ld) (hd : d.length < 1024) (hw : (Lit.int .i64 x).wf = true) :
    Calls Yba.prog 18 #[.pointer (some ⟨N, 0, none⟩), .int .i64 x] w fun e w' => e = .returned (.int .i64 (idxI (ext d x) x)) ∧ ∃ sv' mv' vv' n', St w0 w' N base (ext d x) (ext d x) sv' mv' vv' n' dd ld := by
  cases hi : idx d x with
  | some i =>
    rw [ext_old hi, idxI_old hi]
    refine (number_old w N base d sv mv vv n x i h.num (by omega) hw hi).mono ?_
    rintro e w' ⟨rfl, rfl⟩
    exact ⟨rfl, sv, mv, vv, n, h⟩
  | none =>
    rw [ext_new hi, idxI_new hi]
    by_cases hx : 0 ≤ x ∧ x < 65536
    · obtain ⟨v, rfl⟩ := Int.eq_ofNat_of_zero_le hx.1
      exact number_small w0 w N base d ld sv mv vv dd n v h hd (by omega) hi
    · exact number_large w0 w N base d ld sv mv vv dd n x h hd hw hi hx

theorem wrap_u64 (x : Int) (h0 : -9223372036854775808 ≤ x) (h1 : x ≤ 9223372036854775807) : IntKind.u64.wrap x = if x < 0 then x + 18446744073709551616 else x := by
  simp [IntKind.wrap, IntKind.signed, IntKind.bits]
  split <;> omega
set_option maxRecDepth 100000 in
set_option maxHeartbeats 1000000 in
/-- '(*Numbering).Number'. -/
theorem Number_any (w0 w : World) (N base : Nat) (d ld : List Int) (sv mv vv dd : Value) (n : Nat) (x : Int) (h : St w0 w N base d d sv mv vv n dd ld) (hd : d.length < 1024) (hw : (Lit.int .i64 x).wf = true) :
    Calls Yba.prog 9 #[.pointer (some ⟨N, 0, none⟩), .int .i64 x] w fun e w' => e = .returned (.int .i64 (idxI (ext d x) x)) ∧ ∃ sv' mv' vv' n', St w0 w' N base (ext d x) (ext d x) sv' mv' vv' n' dd ld := by
  have HA := hide (number_any w0 w N base d ld sv mv vv dd n x h hd hw)
  have c0 : w.cell? ⟨N, 0, none⟩ = some sv := h.num.self.cell rfl
  have htop := h.num.top
  obtain ⟨a, hsv, hsa⟩ : ∃ a, sv = .slice a n n ∧ (0 < n → ∃ g, a = some ⟨g, 0, none⟩ ∧ Blk w g 3 ((List.range n).map fun v => Value.int .i64 (smallAt d v))) := by
    rcases h.num.sml with ⟨e, e0⟩ | ⟨g, e, _, hB⟩
    · exact ⟨none, by rw [e, e0], fun h => by omega⟩
    · exact ⟨_, e, fun _ => ⟨g, rfl, hB⟩⟩
  rw [hsv] at c0
  have HSV := hide hsv
  clear hsv
  have hb := bounds_i64 hw
  by_cases hx0 : x < 0
  · have hcmp : decide (IntKind.u64.wrap x < (n : Int)) = false := decide_eq_false (by rw [wrap_u64 x (by omega) (by omega), if_pos hx0]; omega)
    clear h hw hb
    go_enter Yba.func9, Yba.ntmps9
    go_wp2_with (go_at_call 18; refine HA.out.mono ?_; rintro e w' ⟨rfl, hE⟩)
    go_ret
    exact ⟨rfl, hE⟩
  · obtain ⟨v, rfl⟩ := Int.eq_ofNat_of_zero_le (show 0 ≤ x by omega)
    by_cases hvn : v < n
    · obtain ⟨g, hga, hB⟩ := hsa (by omega)
      have hcv := hB.cell (i := v) (v := .int .i64 (smallAt d v)) (by simp [hvn])
      subst hga
      have hcmp : (v : Int) < (n : Int) := by omega
      cases hi : idx d (v : Int) with
      | none =>
        rw [show smallAt d v = 0 by simp [smallAt, hi]] at hcv
        clear h hw hb hi hsa hB
        go_enter Yba.func9, Yba.ntmps9
        go_wp2_with (go_at_call 18; refine HA.out.mono ?_; rintro e w' ⟨rfl, hE⟩)
        go_ret
        exact ⟨rfl, hE⟩
      | some i =>
        have hil := idx_lt d _ i hi
        rw [show smallAt d v = (i : Int) + 1 by simp [smallAt, hi]] at hcv
        obtain ⟨y, hy⟩ : ∃ y, y = (i : Int) + 1 := ⟨_, rfl⟩
        rw [← hy] at hcv
        have hy1 : 1 ≤ y := by omega
        have hy2 : y ≤ 1024 := by omega
        have hz : (y != 0) = true := by rw [bne_iff_ne]; omega
        have HY := hide hy
        have HE := hide (ext_old hi)
        have HX := hide (idxI_old hi)
        have HS := hide h
        clear hw hb hi hsa hB hy hil h
        go_enter Yba.func9, Yba.ntmps9
        go_wp2_with fail
        go_ret
        rw [HE.out]
        exact ⟨ret_int (by rw [HX.out, HY.out]; omega), sv, mv, vv, n, HS.out⟩
    · have hcmp : decide (IntKind.u64.wrap (v : Int) < (n : Int)) = false := decide_eq_false (by rw [wrap_u64 v (by omega) (by omega), if_neg (by omega)]; omega)
      clear h hw hb hsa
      go_enter Yba.func9, Yba.ntmps9
      go_wp2_with (go_at_call 18; refine HA.out.mono ?_; rintro e w' ⟨rfl, hE⟩)
      go_ret
      exact ⟨rfl, hE⟩
end Go.Proofs.Ybulkcsym.Numb
