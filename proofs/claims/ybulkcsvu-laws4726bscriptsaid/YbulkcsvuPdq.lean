/-
  OUR OWN. 'pdqsortOrdered' (22) at uint64.
-/
import Derived.Test.YbulkcsvuPdl
namespace Go.Proofs.Ybulkcsvu
open Go.RowKit

theorem SR.size {B : Nat} {w wr : World} {blk : Nat} {d : Array Int} {sp : List Value} (h : SR B w wr blk d sp) : B ≤ wr.heap.size := Nat.le_of_lt (Nat.lt_of_le_of_lt h.le h.row.lt)
theorem hint_two (h : Sort.Hint) : (hintN h == (2 : Int)) = decide (h = .decreasing) := by cases h <;> rfl
theorem hint_one (h : Sort.Hint) : (hintN h == (1 : Int)) = decide (h = .increasing) := by cases h <;> rfl

set_option maxRecDepth 100000 in
set_option maxHeartbeats 4000000 in
theorem pdq_walk (B blk n cap : Nat) (sp : List Value) (w : World) (hn5 : n ≤ 5000) : ∀ (M a b lim : Nat) (d : Array Int) (wr0 : World), b - a ≤ M → SR B w wr0 blk d sp → d.size = n → a ≤ b → b ≤ n → lim ≤ 100 →
    Calls Yba.prog 22 #[.slice (some ⟨blk, 0, none⟩) n cap, .int .i64 a, .int .i64 b, .int .i64 lim] wr0 fun e w' => e = .returned (.tuple #[]) ∧ SR B w w' blk (Sort.pdq lt d a b lim true true) sp ∧ (Sort.pdq lt d a b lim true true).size = n := by
  intro M
  induction M using Nat.strongRecOn with
  | ind M ih =>
  intro a0 b0 lim0 d0 wr0 hM hS0 hd0 hab0 hbn0 hlim0
  have IH := hide ih
  clear ih
  have HL := hide fun x y w => less x y w
  obtain ⟨R, hR⟩ : ∃ R, R = Sort.pdq lt d0 a0 b0 lim0 true true := ⟨_, rfl⟩
  rw [← hR]
  have HR := hide hR
  clear hR
  go_enter Yba.func22, Yba.ntmps22
  go_wp2
  go_loopw [1, 2, 3, 8, 9] (fun va vb vl v8 v9 wr => ∃ (a b lim : Nat) (wb wp : Bool) (d : Array Int), a ≤ b ∧ b ≤ n ∧ b - a ≤ M ∧ lim ≤ 100 ∧ va = .int .i64 a ∧ vb = .int .i64 b ∧ vl = .int .i64 lim ∧ v8 = .bool wb ∧ v9 = .bool wp ∧ d.size = n ∧ SR B w wr blk d sp ∧ Sort.pdq lt d a b lim wb wp = R) (fun va vb _ _ _ _ => (intOf vb).toNat - (intOf va).toNat)
  case atStart => exact ⟨a0, b0, lim0, true, true, d0, hab0, hbn0, hM, hlim0, rfl, rfl, rfl, rfl, rfl, hd0, hS0, HR.out.symm⟩
  case round =>
    clear hS0 HR hd0 hab0 hbn0 hM hlim0
    obtain ⟨a, b, lim, wb, wp, d, hab, hbn, hbM, hlim, rfl, rfl, rfl, rfl, rfl, hds, hS, hE⟩ := hrel
    have HE := hide hE
    have HS := hide hS
    clear hE hS
    obtain ⟨l, hl⟩ : ∃ l, l = b - a := ⟨_, rfl⟩
    have hl2 : (b : Int) - (a : Int) = (l : Nat) := by omega
    have wl := wrapN l (by omega)
    have HLL := hide hl
    clear hl
    by_cases h12 : l ≤ 12
    · have hg1 : decide ((l : Int) ≤ 12) = true := decide_eq_true (by omega)
      have C := hide (ins_walk B blk n cap a b d sp w wr HS.out hds hab hbn hn5)
      have hz := (Sort.insertionSort_holds (lt := lt) Sort.swo_ltInt d a b hab (by omega)).1.1
      have h := HE.out
      rw [pdq_small (by rw [← HLL.out]; exact h12)] at h
      rw [h] at C hz
      go_wp2_with fail
      refine C.out.mono ?_
      rintro e w1 ⟨rfl, hS1⟩
      go_wp2
      refine bodyPost_ret (results_none (by rfl) _ _ _) rfl ?_
      exact ⟨rfl, hS1, by rw [hz]; exact hds⟩
    · have hg1 : decide ((l : Int) ≤ 12) = false := decide_eq_false (by omega)
      have h12' : 12 < b - a := by rw [← HLL.out]; omega
      by_cases h0 : lim = 0
      · subst h0
        have C := hide (heap_walk B blk n cap a b d sp w wr HS.out hds (by omega) hbn hn5)
        have hz := (Sort.heapSort_holds (lt := lt) Sort.swo_ltInt d a b hab (by omega)).1.1
        have h := HE.out
        rw [pdq_heap (by omega) rfl] at h
        rw [h] at C hz
        go_wp2_with fail
        refine C.out.mono ?_
        rintro e w1 ⟨rfl, hS1⟩
        go_wp2
        refine bodyPost_ret (results_none (by rfl) _ _ _) rfl ?_
        exact ⟨rfl, hS1, by rw [hz]; exact hds⟩
      · have hg2 : ((lim : Int) == 0) = false := by simp; omega
        obtain ⟨d1, e1⟩ : ∃ d1, d1 = if !wb then Sort.breakPatterns d a b else d := ⟨_, rfl⟩
        obtain ⟨lim1, e2⟩ : ∃ lim1, lim1 = if !wb then lim - 1 else lim := ⟨_, rfl⟩
        have hd1 : d1.size = n := by
          rw [e1]; split
          · rw [(Sort.breakPatterns_holds d a b hab (by omega)).1]; exact hds
          · exact hds
        have hlim1 : lim1 ≤ 100 := by rw [e2]; split <;> omega
        have E1 := hide e1
        have E2 := hide e2
        clear e1 e2
        go_upto_if 35 with fail
        go_cut [3] (fun v wc => v = .int .i64 (lim1 : Nat) ∧ SR B w wc blk d1 sp)
        case first =>
          cases wb with
          | true =>
            have e1 : d1 = d := E1.out
            have e2 : lim1 = lim := E2.out
            subst e1 e2
            go_wp2
            go_meet
            case rel => exact ⟨rfl, HS.out⟩
          | false =>
            have e1 : d1 = Sort.breakPatterns d a b := E1.out
            have e2 : lim1 = lim - 1 := E2.out
            have e3 : (lim : Int) - 1 = (lim1 : Nat) := by omega
            have C := hide (brk_walk B blk n cap a b d sp w wr HS.out HS.out.size hds h12' hbn hn5)
            rw [← e1] at C
            clear e1 e2
            go_wp2_with fail
            refine C.out.mono ?_
            rintro e w1 ⟨rfl, hS1⟩
            go_wp2
            go_meet
            case rel => exact ⟨rfl, hS1⟩
        case rest =>
        obtain ⟨rfl, hS1⟩ := hcut
        have C := hide (cho_walk B blk n cap a b d1 sp w wc hS1 hS1.size hd1 h12' hbn hn5)
        have hp := Sort.choosePivot_holds lt d1 a b (by omega)
        obtain ⟨p, hh, e3⟩ : ∃ p hh, (p, hh) = Sort.choosePivot lt d1 a b := ⟨_, _, rfl⟩
        rw [← e3] at C hp
        simp only at C hp
        obtain ⟨hv, hhv⟩ : ∃ hv, hv = hintN hh := ⟨_, rfl⟩
        rw [← hhv] at C
        obtain ⟨d2, e4⟩ : ∃ d2, d2 = if hh = .decreasing then Sort.reverseRange d1 a b else d1 := ⟨_, rfl⟩
        obtain ⟨pv, e5⟩ : ∃ pv, pv = if hh = .decreasing then (b - 1) - (p - a) else p := ⟨_, rfl⟩
        obtain ⟨h2, e6⟩ : ∃ h2, h2 = if hh = .decreasing then Sort.Hint.increasing else hh := ⟨_, rfl⟩
        have hd2 : d2.size = n := by
          rw [e4]; split
          · rw [(Sort.reverseRange_holds d1 a b hab (by omega)).1]; exact hd1
          · exact hd1
        have hpv : a ≤ pv ∧ pv < b := by rw [e5]; split <;> omega
        have E3 := hide e3
        have E4 := hide e4
        have E5 := hide e5
        have E6 := hide e6
        have HHV := hide hhv
        clear e3 e4 e5 e6 hhv hS1 HS
        go_wp2_with fail
        refine C.out.mono ?_
        rintro e w1 ⟨rfl, hS1⟩
        clear C
        go_upto_if 50 with fail
        go_cut [11, 12] (fun v11 v12 wc => v11 = .int .i64 (pv : Nat) ∧ v12 = .int .i64 (hintN h2) ∧ SR B w wc blk d2 sp)
        case first =>
          by_cases hdec : hh = .decreasing
          · have t1 : (hv == (2 : Int)) = true := by rw [HHV.out, hdec]; rfl
            have e4 := E4.out
            have e5 := E5.out
            have e6 := E6.out
            rw [if_pos hdec] at e4 e5 e6
            obtain ⟨b1, hb1⟩ : ∃ b1, b1 = b - 1 := ⟨_, rfl⟩
            obtain ⟨pa, hpa⟩ : ∃ pa, pa = p - a := ⟨_, rfl⟩
            have hb12 : (b : Int) - 1 = (b1 : Nat) := by omega
            have hpa2 : (p : Int) - (a : Int) = (pa : Nat) := by omega
            have hpv2 : (b1 : Int) - (pa : Int) = (pv : Nat) := by omega
            have C := hide (rev_walk B blk n cap a b d1 sp w w1 hS1 hd1 (by omega) hbn hn5)
            rw [← e4] at C
            have wpv := wrapN pv (by omega)
            have wpa := wrapN pa (by omega)
            clear e4 e5 e6 hb1 hpa
            go_wp2_with fail
            refine C.out.mono ?_
            rintro e w2 ⟨rfl, hS2⟩
            go_wp2
            go_meet
            case rel => exact ⟨rfl, by rw [E6.out, if_pos hdec]; rfl, hS2⟩
          · have t1 : (hv == (2 : Int)) = false := by rw [HHV.out, hint_two, decide_eq_false hdec]
            have e4 := E4.out
            have e5 := E5.out
            have e6 := E6.out
            rw [if_neg hdec] at e4 e5 e6
            subst e4 e5
            clear e6
            go_wp2
            go_meet
            case rel => exact ⟨rfl, by rw [E6.out, if_neg hdec, ← HHV.out], hS1⟩
        case rest =>
        obtain ⟨rfl, rfl, hS2⟩ := hcut
        clear hS1
        obtain ⟨hv2, hhv2⟩ : ∃ hv2, hv2 = hintN h2 := ⟨_, rfl⟩
        obtain ⟨he, hhe⟩ : ∃ he, he = decide (h2 = .increasing) := ⟨_, rfl⟩
        have t3 : (hv2 == (1 : Int)) = he := by rw [hhv2, hint_one, hhe]
        rw [← hhv2]
        obtain ⟨d3, ok, e7⟩ : ∃ d3 ok, (d3, ok) = if wb && wp && decide (h2 = .increasing) then Sort.partialInsertionSort lt d2 a b else (d2, false) := ⟨_, _, rfl⟩
        have hd3 : d3.size = n := by
          have h3 : d3 = (if wb && wp && decide (h2 = .increasing) then Sort.partialInsertionSort lt d2 a b else (d2, false)).1 := by rw [← e7]
          rw [h3]
          split
          · rw [Sort.partialInsertionSort, pins_size]; exact hd2
          · exact hd2
        have h := HE.out
        rw [pdq_step (by omega) h0 E1.out E2.out E3.out E4.out E5.out E6.out e7 (by omega) hpv.1 hpv.2] at h
        have HE2 := hide h
        rw [← hhe] at e7
        obtain ⟨c6, h6⟩ : ∃ c6, c6 = (wb && wp && he) := ⟨_, rfl⟩
        rw [← h6] at e7
        have E7 := hide e7
        have H6 := hide h6
        clear h e7 HE E1 E2 E3 E4 E5 E6 HHV hhv2 hhe h6
        go_upto_region 15 with fail
        go_cut [68] (fun c wc => c = .bool c6 ∧ SR B w wc blk d2 sp)
        case first =>
          cases wb <;> cases wp <;>
            · go_wp2_with fail
              go_meet
              case rel => exact ⟨by rw [H6.out]; simp, hS2⟩
        case rest =>
        clear hS2
        obtain ⟨rfl, hS2⟩ := hcut
        go_upto_if 68 with fail
        go_cut [] (fun wc => ok = false ∧ SR B w wc blk d3 sp)
        case first =>
          cases c6 with
          | false =>
            have h := E7.out
            simp only [Bool.false_eq_true, if_false, Prod.mk.injEq] at h
            obtain ⟨rfl, rfl⟩ := h
            go_wp2
            go_meet
            case rel => exact ⟨trivial, hS2⟩
          | true =>
            have h := E7.out
            simp only [if_true] at h
            have C := hide (pins_walk B blk n cap a b d2 sp w wc hS2 hd2 (by omega) hbn hn5)
            rw [← h] at C
            simp only at C
            clear h
            go_wp2_with fail
            refine C.out.mono ?_
            rintro e w2 ⟨rfl, hS3⟩
            cases ok with
            | true =>
              have h := HE2.out
              simp only [if_true] at h
              subst h
              go_wp2
              refine bodyPost_ret (results_none (by rfl) _ _ _) rfl ?_
              exact ⟨rfl, hS3, hd3⟩
            | false =>
              go_wp2
              go_meet
              case rel => exact ⟨trivial, hS3⟩
        case rest =>
        obtain ⟨rfl, hS3⟩ := hcut
        have h := HE2.out
        simp only [Bool.false_eq_true, if_false] at h
        obtain ⟨c7, h7⟩ : ∃ c7, c7 = (decide (a > 0) && !lt d3[a - 1]! d3[pv]!) := ⟨_, rfl⟩
        rw [← h7] at h
        have HE3 := hide h
        have H7 := hide h7
        have HS3 := hide hS3
        clear h h7 hS2 hS3 HE2 E7
        go_upto_region 17 with fail
        go_cut [87] (fun c wc => c = .bool c7 ∧ SR B w wc blk d3 sp)
        case first =>
          by_cases ha0 : 0 < a
          · have g1 : decide ((0 : Int) < (a : Int)) = true := decide_eq_true (by omega)
            have g1b : decide (0 < a) = true := decide_eq_true ha0
            obtain ⟨a1, ha1⟩ : ∃ a1, a1 = a - 1 := ⟨_, rfl⟩
            have ha12 : (a : Int) - 1 = (a1 : Nat) := by omega
            obtain ⟨x, hx⟩ : ∃ x, x = d3[a1]! := ⟨_, rfl⟩
            obtain ⟨y, hy⟩ : ∃ y, y = d3[pv]! := ⟨_, rfl⟩
            have cx := HS3.out.cell (by omega) hx
            have cy := HS3.out.cell (by omega) hy
            have ha1n : a1 < n := by omega
            have hpvn : pv < n := by omega
            have h7 := H7.out
            rw [← ha1, ← hx, ← hy, decide_eq_true (show a > 0 from ha0)] at h7
            clear hx hy ha1
            by_cases hl : lt x y = true
            · have L1 : Hid (∀ w, Calls Yba.prog 31 #[.int .u64 x, .int .u64 y] w fun e w' => e = .returned (.bool true) ∧ ∃ m, w' = w.drewN m) := by intro w; rw [← hl]; exact HL.out x y w
              rw [hl] at h7
              have H7' := hide h7
              clear h7
              go_quiet ((go_at_call 31; exact Calls.quiet_of (L1.out _)))
              go_wp2_with fail
              go_meet
              case rel => exact ⟨by rw [H7'.out]; rfl, HS3.out.drewN _⟩
            · have hl' : lt x y = false := by simpa using hl
              have L1 : Hid (∀ w, Calls Yba.prog 31 #[.int .u64 x, .int .u64 y] w fun e w' => e = .returned (.bool false) ∧ ∃ m, w' = w.drewN m) := by intro w; rw [← hl']; exact HL.out x y w
              rw [hl'] at h7
              have H7' := hide h7
              clear h7
              go_quiet ((go_at_call 31; exact Calls.quiet_of (L1.out _)))
              go_wp2_with fail
              go_meet
              case rel => exact ⟨by rw [H7'.out]; rfl, HS3.out.drewN _⟩
          · obtain rfl : a = 0 := by omega
            have h7 := H7.out
            simp only [gt_iff_lt, Nat.lt_irrefl, decide_false, Bool.false_and] at h7
            have H7' := hide h7
            clear h7
            go_quiet (fail)
            go_wp2_with fail
            go_meet
            case rel => exact ⟨by rw [H7'.out], HS3.out.drewN _⟩
        case rest =>
        obtain ⟨rfl, hS4⟩ := hcut
        clear HS3 H7
        cases c7 with
        | true =>
          have h := HE3.out
          simp only [if_true] at h
          have C := hide (partEq_walk B blk n cap a b pv d3 sp w wc hS4 hd3 hpv.1 hpv.2 hbn hn5)
          have hr := partEq_range (d := d3) (a := a) (b := b) (pv := pv) (by omega)
          unfold pdqEq at h
          obtain ⟨mid, d4, e8⟩ : ∃ mid d4, (mid, d4) = Sort.partitionEqual lt d3 a b pv := ⟨_, _, rfl⟩
          rw [← e8] at C hr h
          simp only at C hr h
          have HE4 := hide h
          clear h e8
          go_wp2_with fail
          refine C.out.mono ?_
          rintro e w2 ⟨rfl, hS5⟩
          go_wp2
          go_roundw
          case rel => exact ⟨mid, b, lim1, wb, wp, d4, by omega, by omega, by omega, hlim1, rfl, rfl, rfl, rfl, rfl, by rw [hr.2.2]; exact hd3, hS5, HE4.out⟩
          case measure => simp [intOf]; omega
        | false =>
          have h := HE3.out
          simp only [Bool.false_eq_true, if_false] at h
          have C := hide (part_walk B blk n cap a b pv d3 sp w wc hS4 hd3 hpv.1 hpv.2 hbn hn5)
          have hr := part_range (d := d3) hpv.1 hpv.2 (by omega)
          unfold pdqPart at h
          obtain ⟨mid, ap, d4, e8⟩ : ∃ mid ap d4, (mid, ap, d4) = Sort.partition lt d3 a b pv := ⟨_, _, _, rfl⟩
          rw [← e8] at C hr h
          simp only at C hr h
          have hd4 : d4.size = n := by rw [hr.2.2]; exact hd3
          obtain ⟨t, ht⟩ : ∃ t, t = l / 8 := ⟨_, rfl⟩
          have ht2 : (l : Int).tdiv 8 = (t : Nat) := by rw [ht]; exact (Int.ofNat_tdiv l 8).symm
          have ht3 : (l : Int) / 8 = (t : Nat) := by rw [ht]; rfl
          have wt := wrapN t (by omega)
          obtain ⟨lf, hlf⟩ : ∃ lf, lf = mid - a := ⟨_, rfl⟩
          obtain ⟨rg, hrg⟩ : ∃ rg, rg = b - mid := ⟨_, rfl⟩
          have hlf2 : (mid : Int) - (a : Int) = (lf : Nat) := by omega
          have hrg2 : (b : Int) - (mid : Int) = (rg : Nat) := by omega
          have wlf := wrapN lf (by omega)
          have wrg := wrapN rg (by omega)
          rw [← hlf, ← hrg, ← HLL.out, ← ht] at h
          obtain ⟨m1, hm1⟩ : ∃ m1, m1 = mid + 1 := ⟨_, rfl⟩
          have hm12 : (mid : Int) + 1 = (m1 : Nat) := by omega
          have wm1 := wrapN m1 (by omega)
          rw [← hm1] at h
          have HLF := hide hlf
          have HRG := hide hrg
          have HM1 := hide hm1
          clear e8 ht hlf hrg hm1
          by_cases hlr : lf < rg
          · have g1 : decide ((lf : Int) < (rg : Int)) = true := decide_eq_true (by omega)
            rw [if_pos hlr] at h
            have HE4 := hide h
            clear h
            go_wp2_with fail
            refine C.out.mono ?_
            rintro e w2 ⟨rfl, hS5⟩
            have C2 := hide (IH.out (mid - a) (by have := HLL.out; omega) a mid lim1 d4 w2 (Nat.le_refl _) hS5 hd4 hr.1 (by omega) hlim1)
            clear C hS5
            go_wp2_with fail
            refine C2.out.mono ?_
            rintro e w3 ⟨rfl, hS6, hz6⟩
            go_wp2
            go_roundw
            case rel => exact ⟨m1, b, lim1, decide (lf ≥ t), ap, _, by have := HM1.out; omega, by omega, by have := HM1.out; omega, hlim1, rfl, rfl, rfl, congrArg Value.bool (decide_eq_decide.2 (by omega)), rfl, hz6, hS6, HE4.out⟩
            case measure => simp [intOf]; have := HM1.out; omega
          · have g1 : decide ((lf : Int) < (rg : Int)) = false := decide_eq_false (by omega)
            rw [if_neg hlr] at h
            have HE4 := hide h
            clear h
            go_wp2_with fail
            refine C.out.mono ?_
            rintro e w2 ⟨rfl, hS5⟩
            have C2 := hide (IH.out (b - m1) (by have := HM1.out; have := HLL.out; omega) m1 b lim1 d4 w2 (Nat.le_refl _) hS5 hd4 (by have := HM1.out; omega) hbn hlim1)
            clear C hS5
            go_wp2_with fail
            refine C2.out.mono ?_
            rintro e w3 ⟨rfl, hS6, hz6⟩
            go_wp2
            go_roundw
            case rel => exact ⟨a, mid, lim1, decide (rg ≥ t), ap, _, by omega, by omega, by omega, hlim1, rfl, rfl, rfl, congrArg Value.bool (decide_eq_decide.2 (by omega)), rfl, hz6, hS6, HE4.out⟩
            case measure => simp [intOf]; omega
end Go.Proofs.Ybulkcsvu
