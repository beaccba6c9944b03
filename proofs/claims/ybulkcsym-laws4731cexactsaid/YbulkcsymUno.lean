/-
  OUR OWN. 'orderTest.unorderedPairs' (function 15).
-/
import Derived.Test.YbulkcsymPairs
import Derived.Deep.AppendLies
import Derived.Deep.Onto
namespace Go.Proofs.Ybulkcsym
open Go.RowKit

/-- The writers' lists, key by key, as they lie in memory. -/
structure Wri (w : World) (B kb n : Nat) (ws : Nat → List Nat) (av : Nat → Option Addr) (gb cp : Nat → Nat) : Prop where
  hdr : ∀ k, k < 4 → w.cell? ⟨kb, k, none⟩ = some (.slice (av k) (ws k).length (cp k))
  at0 : ∀ k, k < 4 → 0 < (ws k).length → av k = some ⟨gb k, 0, none⟩
  cap : ∀ k, k < 4 → (ws k).length ≤ cp k
  cell : ∀ k, k < 4 → ∀ i, i < (ws k).length → w.cell? ⟨gb k, i, none⟩ = some (.int .i64 ((ws k).getD i 0 : Nat))
  lt : ∀ k, k < 4 → 0 < (ws k).length → gb k < B
  klt : kb < B
  len : ∀ k, k < 4 → (ws k).length ≤ 300
  val : ∀ k, k < 4 → ∀ i, i < (ws k).length → (ws k).getD i 0 < n
theorem Wri.below {w w' : World} {B kb n : Nat} {ws : Nat → List Nat} {av : Nat → Option Addr} {gb cp : Nat → Nat} (h : Wri w B kb n ws av gb cp) (hb : Below B w w') : Wri w' B kb n ws av gb cp :=
  ⟨fun k hk => (hb.cell h.klt).trans (h.hdr k hk), h.at0, h.cap, fun k hk i hi => (hb.cell (h.lt k hk (by omega))).trans (h.cell k hk i hi), h.lt, h.klt, h.len, h.val⟩

def fAgg (cb pb : Nat) : Value := .agg #[.pointer (some ⟨cb, 0, none⟩), .slice none 0 0, .pointer (some ⟨pb, 0, none⟩), .slice none 0 0]
def PrecOk (w : World) (cb pb n : Nat) (pr : Nat → Nat → Bool) : Prop := ∀ a b, a < n → b < n → ∀ wq, Below w.heap.size w wq → Calls Yba.prog 21 #[fAgg cb pb, .int .i64 a, .int .i64 b] wq fun e w' => e = .returned (.bool (pr a b)) ∧ Below wq.heap.size wq w'

theorem info96 : (Yba.prog.info? 96).map (fun i => (i.zero, i.size, i.bytes)) = some (some (.agg #[.int .i64 0, .int .i64 0, .int .i64 0, .int .i64 0, .int .i64 0, .int .i64 0, .int .i64 0]), 7, 56) := by kernel_rfl

structure UI (w wr : World) (cb pb : Nat) (T : Value) (l : List Pr) : Prop where
  box : Blk wr w.heap.size 92 [.pointer (some ⟨cb, 0, none⟩), .slice none 0 0, .pointer (some ⟨pb, 0, none⟩), .slice none 0 0]
  row : wr.ownsRow (w.heap.size + 1) 96 7 T l.length (l.flatMap pairC)
  below : Below w.heap.size w wr

theorem UI.later {w wr w2 : World} {cb pb : Nat} {T : Value} {l : List Pr} (h : UI w wr cb pb T l) (hb : Below wr.heap.size wr w2) : UI w w2 cb pb T l :=
  ⟨h.box.below hb h.box.lt, h.row.kept (below_grown hb) (own_or _), h.below.trans (hb.mono h.below.size)⟩

theorem UI.push {w wr w1 : World} {cb pb g cap k y z : Nat} {T : Value} {l : List Pr} {O : Obj} (h : UI w wr cb pb T l)
    (hown : w1.ownsRow (w.heap.size + 1) 96 7 (.slice (some ⟨g, 0, none⟩) (l.length + 1) cap) (l.length + 1) (l.flatMap pairC ++ pairC (k, y, z))) (hg : (wr.alloc O).grownBy w1 T.ownBlock) : UI w w1 cb pb (.slice (some ⟨g, 0, none⟩) (l.length + 1) cap) (l ++ [(k, y, z)]) := by
  have hb := h.box.alloc O
  have hr := h.row.alloc O
  refine ⟨hb.grown hg (fun e => ownsRow_ne_blk hr hb (by decide) e.symm), by simpa using hown, (h.below.alloc h.below.size O).grown hg (by simp; exact Nat.le_trans h.below.size (Nat.le_succ _)) (fun b hb => ?_)⟩
  have := hr.lt b hb
  omega

theorem slice_from (G L C j D : Nat) (hj : j < L) (hLC : L ≤ C) (hD : L - (j + 1) = D) : ∃ o c, (0 < D → o = j + 1) ∧ ∀ w, (Instr.slice 22 (.slice (some ⟨G, 0, none⟩) L C) (some (.int .i64 ((j : Int) + 1))) none none).run Yba.prog w = .ok (.slice (some ⟨G, o, none⟩) D c) w := by
  subst hD
  by_cases h : C = j + 1
  · refine ⟨0, C - (j + 1), by omega, fun w => ?_⟩
    simp [Instr.slice, Instr.sliceBounds, Instr.sliceBound, asIntOf, run_underlying Yba.underlying22]
    rw [if_pos ⟨by omega, by omega⟩, if_pos h]
  · refine ⟨j + 1, C - (j + 1), fun _ => rfl, fun w => ?_⟩
    simp [Instr.slice, Instr.sliceBounds, Instr.sliceBound, asIntOf, run_underlying Yba.underlying22]
    rw [if_pos ⟨by omega, by omega⟩, if_neg h]
    simp [Addr.add]

set_option maxRecDepth 100000 in
set_option maxHeartbeats 1000000 in
theorem uno (ob ixb kb n cb pb : Nat) (ws : Nat → List Nat) (av : Nat → Option Addr) (gb cp : Nat → Nat) (pr : Nat → Nat → Bool) (w : World)
    (o1 : w.cell? ⟨ob, 1, none⟩ = some (.pointer (some ⟨ixb, 0, none⟩))) (x4 : w.cell? ⟨ixb, 4, none⟩ = some (.slice (some ⟨kb, 0, none⟩) 4 4)) (hob : ob < w.heap.size) (hixb : ixb < w.heap.size)
    (hW : Wri w w.heap.size kb n ws av gb cp) (hP : PrecOk w cb pb n pr) :
    Calls Yba.prog 15 #[.pointer (some ⟨ob, 0, none⟩), fAgg cb pb] w fun e w' => ∃ T, e = .returned T ∧ w'.ownsRow w.heap.size 96 7 T (pk pr ws 4).length ((pk pr ws 4).flatMap pairC) ∧ Below w.heap.size w w' := by
  have HP := hide hP
  have HW := hide hW
  clear hP hW
  unfold fAgg
  go_enter Yba.func15, Yba.ntmps15
  go_wp2
  go_loopw [5, 20] (fun T i wr => ∃ k : Nat, k ≤ 4 ∧ i = .int .i64 k ∧ UI w wr cb pb T (pre pr ws k 0 0)) (fun _ i _ => 4 - (intOf i).toNat)
  case atStart => 
    refine ⟨0, Nat.zero_le _, rfl, Blk.made _ _ _, World.ownsRow_nil _ _ _ _, (Below.refl _ _).alloc (Nat.le_refl _) _⟩
  case round =>
    obtain ⟨k, hk, rfl, hI⟩ := hrel
    by_cases hk4 : k < 4
    · have hb4 : decide ((k : Int) < 4) = true := decide_eq_true (by omega)
      have HWr := hide (HW.out.below hI.below)
      have c1 := HWr.out.hdr k hk4
      obtain ⟨L, hL⟩ : ∃ L, L = (ws k).length := ⟨_, rfl⟩
      obtain ⟨A, hA⟩ : ∃ A, A = av k := ⟨_, rfl⟩
      obtain ⟨C, hC⟩ : ∃ C, C = cp k := ⟨_, rfl⟩
      rw [← hL, ← hA, ← hC] at c1
      have hL300 : L ≤ 300 := by rw [hL]; exact HW.out.len k hk4
      have HL := hide hL
      have HA := hide hA
      have HC := hide hC
      clear hL hA hC
      go_wp2
      clear c1
      go_loopw [5, 27] (fun T i wq => ∃ j : Nat, j ≤ L ∧ i = .int .i64 j ∧ UI w wq cb pb T (pre pr ws k j 0)) (fun _ i _ => L - (intOf i).toNat)
      case atStart => exact ⟨0, Nat.zero_le _, rfl, hI⟩
      case round =>
        obtain ⟨j, hj, rfl, hI2⟩ := hrel
        by_cases hjL : j < L
        · have hbj : decide ((j : Int) < (L : Int)) = true := decide_eq_true (by omega)
          have HWr2 := hide (HW.out.below hI2.below)
          obtain ⟨G, hG⟩ : ∃ G, G = gb k := ⟨_, rfl⟩
          have hA0 : A = some ⟨G, 0, none⟩ := by rw [HA.out, hG]; exact HW.out.at0 k hk4 (by rw [← HL.out]; omega)
          have HGG := hide hG
          clear hG
          subst hA0
          obtain ⟨y, hy⟩ : ∃ y, y = (ws k).getD j 0 := ⟨_, rfl⟩
          have cy : wr.cell? ⟨G, j, none⟩ = some (.int .i64 y) := by rw [hy, HGG.out]; exact HWr2.out.cell k hk4 j (by rw [← HL.out]; exact hjL)
          have hyn : y < n := by rw [hy]; exact HW.out.val k hk4 j (by rw [← HL.out]; exact hjL)
          have HY := hide hy
          clear hy
          have hLC : L ≤ C := by rw [HL.out, HC.out]; exact HW.out.cap k hk4
          obtain ⟨D, hD⟩ : ∃ D, L - (j + 1) = D := ⟨_, rfl⟩
          obtain ⟨o, c, ho, hsl⟩ := slice_from G L C j D hjL hLC hD
          have HD := hide hD
          have HOO := hide ho
          have hD3 : D ≤ 300 := by omega
          clear hD ho
          go_wp2
          clear cy HWr2 HWr hsl
          go_loopw [5, 37] (fun T i wq => ∃ d : Nat, d ≤ D ∧ i = .int .i64 d ∧ UI w wq cb pb T (pre pr ws k j d)) (fun _ i _ => D - (intOf i).toNat)
          case atStart => exact ⟨0, Nat.zero_le _, rfl, hI2⟩
          case round =>
            clear hI2
            obtain ⟨d, hd, rfl, hI3⟩ := hrel
            by_cases hdD : d < D
            · have hbd : decide ((d : Int) < (D : Int)) = true := decide_eq_true (by omega)
              obtain ⟨z, hz⟩ : ∃ z, z = (ws k).getD (j + 1 + d) 0 := ⟨_, rfl⟩
              have hWw := HW.out.below hI3.below
              have hjd : j + 1 + d < (ws k).length := by rw [← HL.out]; have := HD.out; omega
              have cz : wr.cell? ⟨G, o + d, none⟩ = some (.int .i64 z) := by rw [hz, HGG.out, HOO.out (by omega)]; exact hWw.cell k hk4 _ hjd
              have hzn : z < n := by rw [hz]; exact HW.out.val k hk4 _ hjd
              have HZ := hide hz
              clear hz
              have b0 := hI3.box.cell (i := 0) rfl
              have b1 := hI3.box.cell (i := 1) rfl
              have b2 := hI3.box.cell (i := 2) rfl
              have b3 := hI3.box.cell (i := 3) rfl
              go_wp2_with fail
              clear b0 b1 b2 b3 cz
              refine (HP.out y z hyn hzn wr hI3.below).mono ?_
              rintro e w1 ⟨rfl, hb1⟩
              have hI4 := hI3.later hb1
              clear hI3 hWw
              by_cases hp1 : pr y z = true
              · rw [hp1]
                go_wp2
                go_roundw
                case rel => exact ⟨d + 1, by omega, by go_num, by rw [pre_d, ← HY.out, ← HZ.out, pOne, hp1]; simpa using hI4⟩
                case measure => simp [intOf]; omega
              · have hp1' : pr y z = false := by simpa using hp1
                rw [hp1']
                have b0 := hI4.box.cell (i := 0) rfl
                have b1 := hI4.box.cell (i := 1) rfl
                have b2 := hI4.box.cell (i := 2) rfl
                have b3 := hI4.box.cell (i := 3) rfl
                go_wp2_with fail
                clear b0 b1 b2 b3
                refine (HP.out z y hzn hyn w1 hI4.below).mono ?_
                rintro e w2 ⟨rfl, hb2⟩
                have hI5 := hI4.later hb2
                by_cases hp2 : pr z y = true
                · rw [hp2]
                  go_wp2
                  go_roundw
                  case rel => exact ⟨d + 1, by omega, by go_num, by rw [pre_d, ← HY.out, ← HZ.out, pOne, hp2]; simpa using hI5⟩
                  case measure => simp [intOf]; omega
                · have hp2' : pr z y = false := by simpa using hp2
                  rw [hp2']
                  obtain ⟨i0, hi, hz0, hz1, hz2⟩ := info_parts info96
                  obtain ⟨M, hM⟩ : ∃ M, M = (pre pr ws k j d).length := ⟨_, rfl⟩
                  have hM5 : M ≤ 500000 := by rw [hM]; exact pre_len HW.out.len hk4 (by omega) (by omega)
                  have HO : Hid ((w2.alloc (.cells #[.int .i64 5, .int .i64 0, .int .i64 k, .int .i64 0, .int .i64 y, .int .i64 z, .int .i64 0] 96)).ownsRow (w.heap.size + 1) 96 7 u5 M ((pre pr ws k j d).flatMap pairC)) := by rw [hM]; exact hI5.row.alloc _
                  have HN := hide (World.news_of_block (Blk.made w2 #[.int .i64 5, .int .i64 0, .int .i64 k, .int .i64 0, .int .i64 y, .int .i64 z, .int .i64 0] 96))
                  have H1 : Hid (∀ u ∈ [Value.int .i64 5, .int .i64 0, .int .i64 k, .int .i64 0, .int .i64 y, .int .i64 z, .int .i64 0], u.oneCell' = true) := by intro u hu; simp at hu; rcases hu with rfl | rfl | rfl | rfl | rfl | rfl | rfl <;> rfl
                  have HMM := hide hM
                  have hlt := hI5.box.lt
                  clear hM
                  go_wp2_with (at_builtin; refine wpList_append_lies _ rfl (.tmp 53) (.tmp 58) 89 rfl (w.heap.size + 1) 96 i0 (.agg #[.int .i64 0, .int .i64 0, .int .i64 0, .int .i64 0, .int .i64 0, .int .i64 0, .int .i64 0]) 7 56 Yba.underlying89 hi hz0 hz1 hz2 rfl (by decide) _ M _ rfl HO.out ⟨w2.heap.size, 0, none⟩ 1 1 _ rfl rfl HN.out H1.out (by omega) (by unfold maxLen; omega) (by omega) (by simp; omega) _ rfl ?_; intro g cap w3 hown1 hgrow1 hat1 hlt1)
                  go_roundw
                  case rel =>
                    refine ⟨d + 1, by omega, by go_num, ?_⟩
                    rw [pre_d, ← HY.out, ← HZ.out, pOne, hp1', hp2']
                    have e := HMM.out
                    subst e
                    exact hI5.push hown1 hgrow1
                  case measure => simp [intOf]; omega
            · obtain rfl : d = D := by omega
              go_wp2
              go_roundw
              case rel => exact ⟨j + 1, by omega, by go_num, by rw [pre_i (d := d) (by rw [← HL.out]; exact HD.out)]; exact hI3⟩
              case measure => simp [intOf]; omega
        · obtain rfl : j = L := by omega
          go_wp2
          go_roundw
          case rel => exact ⟨k + 1, by omega, by go_num, by rw [pre_k HL.out.symm]; exact hI2⟩
          case measure => simp [intOf]; omega
    · obtain rfl : k = 4 := by omega
      go_wp2
      go_ret
      refine ⟨_, rfl, ?_, hI.below⟩
      have h := hI.row
      have e : pre pr ws 4 0 0 = pk pr ws 4 := by simp [pre, pi, pj]
      rw [e] at h
      exact World.ownsRow.mono h (by omega)
end Go.Proofs.Ybulkcsym
