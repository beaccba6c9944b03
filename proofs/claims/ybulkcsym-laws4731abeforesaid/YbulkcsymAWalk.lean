/-
  OUR OWN. 'LawS4731ABefore' (function 3): the walk.
-/
import Derived.Test.YbulkcsymAParts
import Derived.BigRegion
import Derived.Deep.RegionLaw
import Derived.Deep.DeepCutAuto
import Derived.Deep.LoopGhost
import Derived.Deep.OwnRows
import Derived.Laws.CopyOwn
namespace Go.Proofs.Ybulkcsym
open Go.RowKit

theorem info36 : (Yba.prog.info? 36).map (fun i => (i.zero, i.size, i.bytes)) = some (some (txnV 0 0 0), 6, 96) := by kernel_rfl
theorem info3 : (Yba.prog.info? 3).map (fun i => (i.zero, i.size, i.bytes)) = some (some (.int .i64 0), 1, 8) := by kernel_rfl
theorem size3 : (sizeOf 3).run Yba.prog = fun w => .ok 1 w := by kernel_rfl

/-- What region 8's append wants to know, and what it leaves for the store behind it. -/
theorem pre8 {w wr : World} {bs : List Int} {k : Nat} {T : Value} {Sv : Nat → Value} (hI : Inv w wr bs k k T Sv) (x : Int) :
    Hid ((wr.alloc (.cells #[.int .i64 ((k : Int) % 2), .int .i64 (cnt (k % 2) k : Nat), .slice none 0 0, .slice none 0 0, .slice none 0 0, .int .i64 x] 36)).drew.ownsRow (w.heap.size + 1 + 1) 36 6 T k (txnsL bs k)) ∧
    Hid (∀ j u, [Value.int .i64 ((k : Int) % 2), .int .i64 (cnt (k % 2) k : Nat), .slice none 0 0, .slice none 0 0, .slice none 0 0, .int .i64 x][j]? = some u → (wr.alloc (.cells #[.int .i64 ((k : Int) % 2), .int .i64 (cnt (k % 2) k : Nat), .slice none 0 0, .slice none 0 0, .slice none 0 0, .int .i64 x] 36)).drew.cell? ((⟨wr.heap.size, 0, none⟩ : Addr).add j) = some u) ∧
    Hid (∀ u ∈ [Value.int .i64 ((k : Int) % 2), .int .i64 (cnt (k % 2) k : Nat), .slice none 0 0, .slice none 0 0, .slice none 0 0, .int .i64 x], u.oneCell' = true) ∧
    Hid (∀ w1 : World, (wr.alloc (.cells #[.int .i64 ((k : Int) % 2), .int .i64 (cnt (k % 2) k : Nat), .slice none 0 0, .slice none 0 0, .slice none 0 0, .int .i64 x] 36)).drew.grownBy w1 T.ownBlock → w1.cell? ⟨w.heap.size + 1, 3, none⟩ = some T ∧ w1.frozen? ⟨w.heap.size + 1, 3, none⟩ = false) := by
  refine ⟨ownsRow_drew (hI.txns.alloc _), World.news_of_block (Blk.made wr _ 36), ?_, ?_⟩
  · intro u hu; simp at hu; rcases hu with rfl | rfl | rfl | rfl | rfl | rfl <;> rfl
  · intro w1 hg
    have hs := (hI.store.alloc (.cells #[.int .i64 ((k : Int) % 2), .int .i64 (cnt (k % 2) k : Nat), .slice none 0 0, .slice none 0 0, .slice none 0 0, .int .i64 x] 36)).drew
    have h1 := hs.grown hg (fun e => ownsRow_ne_blk (ownsRow_drew (hI.txns.alloc _)) hs (by decide) e.symm)
    exact ⟨h1.cell rfl, h1.free 3⟩

/-- The same for region 9. -/
theorem pre9 {w wr : World} {bs : List Int} {k : Nat} {T : Value} {Sv : Nat → Value} (hI : Inv w wr bs (k + 1) k T Sv) :
    Hid ((wr.alloc (.cells #[.int .i64 (k : Int)] 3)).drew.ownsRow (w.heap.size + 1 + 1) 3 1 (Sv (k % 2)) (cnt (k % 2) k) (sessL (k % 2) (cnt (k % 2) k))) ∧
    Hid (∀ j u, [Value.int .i64 (k : Int)][j]? = some u → (wr.alloc (.cells #[.int .i64 (k : Int)] 3)).drew.cell? ((⟨wr.heap.size, 0, none⟩ : Addr).add j) = some u) ∧
    Hid (∀ u ∈ [Value.int .i64 (k : Int)], u.oneCell' = true) ∧
    Hid (∀ w1 : World, (wr.alloc (.cells #[.int .i64 (k : Int)] 3)).drew.grownBy w1 (Sv (k % 2)).ownBlock → w1.cell? ⟨w.heap.size, ((k : Int) % 2).toNat, none⟩ = some (Sv (k % 2)) ∧ w1.frozen? ⟨w.heap.size, ((k : Int) % 2).toNat, none⟩ = false ∧
      w1.cell? ⟨w.heap.size + 1, 4, none⟩ = some (.slice (some ⟨w.heap.size, 0, none⟩) 2 2)) := by
  have hm : k % 2 < 2 := Nat.mod_lt _ (by omega)
  refine ⟨ownsRow_drew ((hI.rows _ hm).alloc _), World.news_of_block (Blk.made wr _ 3), ?_, ?_⟩
  · intro u hu; simp at hu; subst hu; rfl
  · intro w1 hg
    have hs := (hI.sess.alloc (.cells #[.int .i64 (k : Int)] 3)).drew
    have hs' := (hI.store.alloc (.cells #[.int .i64 (k : Int)] 3)).drew
    have hr := ownsRow_drew ((hI.rows _ hm).alloc (.cells #[.int .i64 (k : Int)] 3))
    have h1 := hs.grown hg (fun e => ownsRow_ne_blk hr hs (by decide) e.symm)
    have h2 := hs'.grown hg (fun e => ownsRow_ne_blk hr hs' (by decide) e.symm)
    rw [show ((k : Int) % 2).toNat = k % 2 from by omega]
    refine ⟨h1.cell ?_, h1.free _, h2.cell rfl⟩
    rcases (show k % 2 = 0 ∨ k % 2 = 1 from by omega) with e | e <;> rw [e] <;> rfl

set_option maxRecDepth 100000 in
set_option maxHeartbeats 4000000 in
theorem a_walk (ak ap : Option Addr) (lk ck lp cp bk ok bp op sel : Nat) (bs fr : List Int) (w : World)
    (hak : 0 < lk → ak = some ⟨bk, ok, none⟩) (hap : 0 < lp → ap = some ⟨bp, op, none⟩) (lbs : bs.length = lk) (lfr : fr.length = lp)
    (hck : ∀ i, i < lk → w.cell? ⟨bk, ok + i, none⟩ = some (.int .i64 (bs.getD i 0))) (hcp : ∀ i, i < lp → w.cell? ⟨bp, op + i, none⟩ = some (.int .i64 (fr.getD i 0)))
    (hbk : 0 < lk → bk < w.heap.size) (hbp : 0 < lp → bp < w.heap.size) (hk : lk ≤ 1024) (hp : lp ≤ 1024) (hsel : sel ≤ 65535) :
    Calls Yba.prog 3 #[.slice ak lk ck, .int .u16 sel, .slice ap lp cp] w fun e w' => e = .returned (.bool true) ∧ Below w.heap.size w w' := by
  have hd1 : decide ((1024 : Int) < (lk : Int)) = false := decide_eq_false (by omega)
  have hd2 : decide ((1024 : Int) < (lp : Int)) = false := decide_eq_false (by omega)
  have hmk : ∀ w, (Instr.makeSlice 25 (.int .i64 2) (.int .i64 2)).run Yba.prog w = .ok (.slice (some ⟨w.heap.size, 0, none⟩) 2 2) (w.alloc (.cells #[.slice none 0 0, .slice none 0 0] 22)) := fun _ => by kernel_rfl
  go_enter Yba.func3, Yba.ntmps3
  go_wp2
  go_loopg [32] lk (fun g i wr => ∃ (k : Nat) (T : Value) (Sv : Nat → Value), k ≤ lk ∧ g = lk - k ∧ i = .int .i64 k ∧ Inv w wr bs k k T Sv)
  case atStart => exact ⟨0, _, _, Nat.zero_le _, rfl, rfl, Inv.start w bs⟩
  case round =>
    obtain ⟨k, T, Sv, hkl, hgk, rfl, hI⟩ := hrel
    have HG := hide hgk
    clear hgk hmk
    by_cases hlt : k < lk
    · obtain ⟨x, hx⟩ : ∃ x, x = bs.getD k 0 := ⟨_, rfl⟩
      have hcx : wr.cell? ⟨bk, ok + k, none⟩ = some (.int .i64 x) := by rw [hx]; exact (hI.below.cell (hbk (by omega))).trans (hck k hlt)
      have hix := index_slice Yba.underlying22 size3 hak ck hlt
      have HX := hide hx
      clear hx
      have hsz := hI.size
      have hm2 : k % 2 < 2 := Nat.mod_lt _ (by omega)
      have l2 : (k : Int) % 2 < 2 := by omega
      have l0 : 0 ≤ (k : Int) % 2 := by omega
      go_wp2
      clear hcx hix
      go_cut [] (fun wc => ∃ T', Inv w wc bs (k + 1) k T' Sv)
      case first =>
        have c3 : wr.cell? ⟨w.heap.size + 1, 3, none⟩ = some T := hI.store.cell rfl
        have c4 : wr.cell? ⟨w.heap.size + 1, 4, none⟩ = some (.slice (some ⟨w.heap.size, 0, none⟩) 2 2) := hI.store.cell rfl
        obtain ⟨sn, sg, hsn, _⟩ := ownsRow_slice (hI.rows (k % 2) hm2)
        have cs' : wr.cell? ⟨w.heap.size, ((k : Int) % 2).toNat, none⟩ = some (.slice sn (cnt (k % 2) k) sg) := by
          rw [show ((k : Int) % 2).toNat = k % 2 from by omega, ← hsn]
          refine hI.sess.cell ?_
          rcases (show k % 2 = 0 ∨ k % 2 = 1 from by omega) with e | e <;> rw [e] <;> rfl
        have HSN := hide hsn
        clear hsn
        obtain ⟨i0, hi, hz0, hz1, hz2⟩ := info_parts info36
        obtain ⟨HO, HN, H1, HR⟩ := pre8 hI x
        have HT : Hid ([Value.int .i64 ((k : Int) % 2), .int .i64 (cnt (k % 2) k : Nat), .slice none 0 0, .slice none 0 0, .slice none 0 0, .int .i64 x] = txnC bs k) := by show _ = _; rw [HX.out]; rfl
        have hb1 : w.heap.size + 1 < wr.heap.size := by omega
        go_region_law (refine step_append_lies _ rfl (.tmp 43) (.tmp 55) 29 rfl (w.heap.size + 1 + 1) 36 i0 (txnV 0 0 0) 6 96 Yba.underlying29 hi hz0 hz1 hz2 rfl (by decide) _ k _ rfl HO.out ⟨wr.heap.size, 0, none⟩ 1 1 _ rfl rfl HN.out H1.out (by omega) (by unfold maxLen; omega) (by omega) (by simp; omega) _ rfl ?_; intro g cap w1 hown1 hgrow1 hat1 hlt1; obtain ⟨c31, f31⟩ := HR.out w1 hgrow1; have HF := hide (hI.txn HT.out hown1 hgrow1))
        all_goals
          go_wp2_with fail
          go_meet
          case rel => exact ⟨_, HF.out⟩
      case rest =>
        obtain ⟨T', hI'⟩ := hcut
        have hsz' := hI'.size
        clear hsz hI
        have c4 : wc.cell? ⟨w.heap.size + 1, 4, none⟩ = some (.slice (some ⟨w.heap.size, 0, none⟩) 2 2) := hI'.store.cell rfl
        have cs' : wc.cell? ⟨w.heap.size, ((k : Int) % 2).toNat, none⟩ = some (Sv (k % 2)) := by
          rw [show ((k : Int) % 2).toNat = k % 2 from by omega]
          refine hI'.sess.cell ?_
          rcases (show k % 2 = 0 ∨ k % 2 = 1 from by omega) with e | e <;> rw [e] <;> rfl
        obtain ⟨i0, hi, hz0, hz1, hz2⟩ := info_parts info3
        obtain ⟨HO, HN, H1, HR⟩ := pre9 hI'
        have hb1 : w.heap.size + 1 < wc.heap.size := by omega
        have hb0 : w.heap.size < wc.heap.size := by omega
        have hcn : cnt (k % 2) k ≤ k := by unfold cnt; omega
        go_wp2
        go_region_law (refine step_append_lies _ rfl (.tmp 70) (.tmp 72) 22 rfl (w.heap.size + 1 + 1) 3 i0 (.int .i64 0) 1 8 Yba.underlying22 hi hz0 hz1 hz2 rfl (by decide) _ (cnt (k % 2) k) _ rfl HO.out ⟨wc.heap.size, 0, none⟩ 1 1 _ rfl rfl HN.out H1.out (by omega) (by unfold maxLen; omega) (by omega) (by simp; omega) _ rfl ?_; intro g cap w1 hown1 hgrow1 hat1 hlt1; obtain ⟨c31, f31, c41⟩ := HR.out w1 hgrow1; have HF := hide (hI'.row hown1 hgrow1 (by simp) hat1))
        all_goals
          go_wp2
          go_roundg (lk - (k + 1))
          case measure => have := HG.out; omega
          case rel => exact ⟨k + 1, T', _, by omega, rfl, by go_num, HF.out⟩
    · obtain rfl : k = lk := by omega
      have hsz := hI.size
      have c4 : wr.cell? ⟨w.heap.size + 1, 4, none⟩ = some (.slice (some ⟨w.heap.size, 0, none⟩) 2 2) := hI.store.cell rfl
      have hm2 : sel % 2 < 2 := Nat.mod_lt _ (by omega)
      obtain ⟨sn, sg, hsn, _, hsg⟩ := ownsRow_slice (hI.rows (sel % 2) hm2)
      have cs : wr.cell? ⟨w.heap.size, sel % 2, none⟩ = some (.slice sn (cnt (sel % 2) k) sg) := by
        rw [← hsn]
        refine hI.sess.cell ?_
        rcases (show sel % 2 = 0 ∨ sel % 2 = 1 from by omega) with e | e <;> rw [e] <;> rfl
      have cs' : wr.cell? ⟨w.heap.size, ((sel : Int) % 2).toNat, none⟩ = some (.slice sn (cnt (sel % 2) k) sg) := by rw [show ((sel : Int) % 2).toNat = sel % 2 from by omega]; exact cs
      have HSN := hide hsn
      clear hsn
      have hcn : cnt (sel % 2) k ≤ k := by unfold cnt; omega
      have hmk := fun w => run_make_row' (P := Yba.prog) 22 3 (.int .i64 0) 8 Yba.underlying22 info3 rfl .i64 .i64 lp (by omega) (by omega) w
      have HG : Hid ((wr.alloc (.cells (madeCells #[.int .i64 0] lp) 3)).heap[wr.heap.size]? = some (.cells (madeCells #[.int .i64 0] lp).toList.toArray 3 (0, 0))) := Blk.made wr _ 3
      have HP := hide (copy_pre (O := .cells (madeCells #[.int .i64 0] lp) 3) lfr hap hcp hbp hI.below)
      have HN : Hid ((fr.map (Value.int .i64)).length = Nat.min lp lp) := by show _ = _; simp [lfr]
      have HL : Hid (0 + (fr.map (Value.int .i64)).length ≤ (madeCells #[.int .i64 0] lp).toList.length) := by show _ ≤ _; simp [lfr, size_madeCells]
      have HO : Hid (∀ v ∈ fr.map (Value.int .i64), v.oneCell' = true) := by intro v hv; obtain ⟨s, _, rfl⟩ := List.mem_map.1 hv; rfl
      obtain ⟨s, hs⟩ : ∃ s, s = sel % 2 := ⟨_, rfl⟩
      obtain ⟨j, hj⟩ : ∃ j, j = sel / 2 % (cnt (sel % 2) k + 1) := ⟨_, rfl⟩
      have e1 : (sel : Int) % 2 = (s : Int) := by omega
      have e2 : (sel : Int) / 2 % ((cnt (sel % 2) k : Nat) + 1 : Int) = (j : Int) := by rw [hj]; push_cast; rfl
      have hjl : j ≤ cnt s k := by rw [hj, hs]; have := Nat.mod_lt (sel / 2) (show 0 < cnt (sel % 2) k + 1 by omega); omega
      have hs2 : s < 2 := by omega
      have hc2 : cnt s k ≤ k := by rw [hs]; exact hcn
      have E1 := hide e1
      have E2 := hide e2
      clear e1 e2 hj hs
      go_wp2_with (refine wpList_copy_splice rfl (.tmp 95) (.tmp 96) 22 22 rfl 3 Yba.underlying22 (by kernel_rfl) _ _ _ _ _ _ rfl rfl wr.heap.size 0 (madeCells #[.int .i64 0] lp).toList 3 HG.out (fr.map (Value.int .i64)) HN.out HP.out HL.out HO.out wr.heap.size (wr.alloc (.cells (madeCells #[.int .i64 0] lp) 3)) (Below.refl _ _) (Nat.le_refl _) ?_; intro w2 HG2 hB2)
      rw [E1.out, E2.out]
      obtain ⟨hb2, hz2, hF2⟩ := copy_post lfr HG2.out hB2
      have hI2 := hI.later hb2
      obtain ⟨Fb, hFb⟩ : ∃ Fb, Fb = wr.heap.size := ⟨_, rfl⟩
      rw [← hFb] at hF2 hz2 ⊢
      clear HG HP HN HL HO HG2 hB2 hb2 c4 cs cs' hI hFb HSN hsg E1 E2
      by_cases hj0 : j = 0
      · subst hj0
        refine (before_none (w.heap.size + 1) Fb lp s fr w2 lfr hp (ints_cell lfr hF2) hz2).mono ?_
        rintro e w3 ⟨rfl, hb3⟩
        have hB3 := hF2.below hb3 hz2
        have hnx3 := hI2.below.trans (hb3.mono hI2.below.size)
        go_wp2
        clear hmk
        go_loop [15, 116] (fun b' i => ∃ q : Nat, q ≤ lp ∧ i = .int .i64 q ∧ b' = .int .i64 ((fr.take q).foldl bmax (0))) (fun _ i => lp - (intOf i).toNat)
        case atStart => exact ⟨0, Nat.zero_le _, rfl, rfl⟩
        case round =>
          obtain ⟨q, hq, rfl, rfl⟩ := hrel
          by_cases hql : q < lp
          · obtain ⟨x, hx⟩ : ∃ x, x = fr.getD q 0 := ⟨_, rfl⟩
            have hcx : w3.cell? ⟨bp, op + q, none⟩ = some (.int .i64 x) := by rw [hx]; exact (hnx3.cell (hbp (by omega))).trans (hcp q hql)
            have hix := index_slice Yba.underlying22 size3 hap cp hql
            have HF := hide (fold_step (b0 := 0) hx (by omega))
            clear hx
            by_cases hgt : (fr.take q).foldl bmax (0) < wrap64 (x + 1)
            · have HF' := HF.out
              rw [if_pos hgt] at HF'
              have HFF := hide HF'
              clear HF' HF
              go_wp2
              go_round
              case rel => exact ⟨q + 1, by omega, by go_num, congrArg _ HFF.out⟩
              case measure => simp [intOf]; omega
            · have HF' := HF.out
              rw [if_neg hgt] at HF'
              have HFF := hide HF'
              clear HF' HF
              go_wp2
              go_round
              case rel => exact ⟨q + 1, by omega, by go_num, congrArg _ HFF.out⟩
              case measure => simp [intOf]; omega
          · obtain rfl : q = lp := by omega
            rw [List.take_of_length_le (l := fr) (i := q) (by omega)]
            go_wp2
            go_loopw [132] (fun i wx => ∃ m : Nat, m ≤ q ∧ i = .int .i64 m ∧ Below w3.heap.size w3 wx) (fun i _ => q - (intOf i).toNat)
            case atStart => exact ⟨0, Nat.zero_le _, rfl, Below.refl _ _⟩
            case round =>
              obtain ⟨m, hm, rfl, hnx4⟩ := hrel
              have hnx5 := hnx3.trans (hnx4.mono hnx3.size)
              by_cases hml : m < q
              · obtain ⟨x, hx⟩ : ∃ x, x = fr.getD m 0 := ⟨_, rfl⟩
                have hcx : wr.cell? ⟨bp, op + m, none⟩ = some (.int .i64 x) := by rw [hx]; exact (hnx5.cell (hbp (by omega))).trans (hcp m hml)
                have hix := index_slice Yba.underlying22 size3 hap cp hml
                have hcy : wr.cell? ⟨Fb, m, none⟩ = some (.int .i64 x) := by rw [hx]; exact ints_cell lfr (hB3.below hnx4 hB3.lt) m hml
                have hm' : (m : Int) < (q : Int) := by omega
                clear hx
                go_wp2
                go_quiet (fail)
                go_wp2
                go_roundw
                case rel => exact ⟨m + 1, by omega, by go_num, below_drewN hnx4 _⟩
                case measure => simp [intOf]; omega
              · go_wp2
                go_ret
                exact ⟨rfl, hnx5⟩
      · obtain ⟨i, rfl⟩ : ∃ i, j = i + 1 := ⟨j - 1, by omega⟩
        obtain ⟨Tb, ct, G, cg, r3, r4, rm, rg, hqk, rt⟩ := hI2.reads hs2 (i := i) (by omega)
        have hB := before_some (w.heap.size + 1) Fb lp Tb k ct w.heap.size G (cnt s k) cg s i (s + 2 * i) (bs.getD (s + 2 * i) 0) fr w2 lfr hp (ints_cell lfr hF2) hz2 hs2 (by omega) (by omega) hqk (by omega) r3 r4 rm rg rt
        obtain ⟨b0, hb0⟩ : ∃ b0, b0 = bs.getD (s + 2 * i) 0 := ⟨_, rfl⟩
        rw [← hb0] at hB
        have hHB := hide hB
        clear hB r3 r4 rm rg rt
        have hcq := hck (s + 2 * i) hqk
        rw [← hb0] at hcq
        have hixq := index_slice Yba.underlying22 size3 hak ck hqk
        have e3 : ((s + 2 * i : Nat) : Int) = (s : Int) + 2 * (i : Int) := by omega
        rw [e3] at hixq
        rw [show ((i + 1 : Nat) : Int) = (i : Int) + 1 from by omega]
        clear hb0 e3
        refine hHB.out.mono ?_
        rintro e w3 ⟨rfl, hb3⟩
        have hB3 := hF2.below hb3 hz2
        have hnx3 := hI2.below.trans (hb3.mono hI2.below.size)
        have hcq3 : w3.cell? ⟨bk, ok + (s + 2 * i), none⟩ = some (.int .i64 b0) := (hnx3.cell (hbk (by omega))).trans hcq
        go_wp2
        clear hmk
        go_loop [15, 116] (fun b' i => ∃ q : Nat, q ≤ lp ∧ i = .int .i64 q ∧ b' = .int .i64 ((fr.take q).foldl bmax (b0))) (fun _ i => lp - (intOf i).toNat)
        case atStart => exact ⟨0, Nat.zero_le _, rfl, rfl⟩
        case round =>
          obtain ⟨q, hq, rfl, rfl⟩ := hrel
          by_cases hql : q < lp
          · obtain ⟨x, hx⟩ : ∃ x, x = fr.getD q 0 := ⟨_, rfl⟩
            have hcx : w3.cell? ⟨bp, op + q, none⟩ = some (.int .i64 x) := by rw [hx]; exact (hnx3.cell (hbp (by omega))).trans (hcp q hql)
            have hix := index_slice Yba.underlying22 size3 hap cp hql
            have HF := hide (fold_step (b0 := b0) hx (by omega))
            clear hx
            by_cases hgt : (fr.take q).foldl bmax (b0) < wrap64 (x + 1)
            · have HF' := HF.out
              rw [if_pos hgt] at HF'
              have HFF := hide HF'
              clear HF' HF
              go_wp2
              go_round
              case rel => exact ⟨q + 1, by omega, by go_num, congrArg _ HFF.out⟩
              case measure => simp [intOf]; omega
            · have HF' := HF.out
              rw [if_neg hgt] at HF'
              have HFF := hide HF'
              clear HF' HF
              go_wp2
              go_round
              case rel => exact ⟨q + 1, by omega, by go_num, congrArg _ HFF.out⟩
              case measure => simp [intOf]; omega
          · obtain rfl : q = lp := by omega
            rw [List.take_of_length_le (l := fr) (i := q) (by omega)]
            go_wp2
            go_loopw [132] (fun i wx => ∃ m : Nat, m ≤ q ∧ i = .int .i64 m ∧ Below w3.heap.size w3 wx) (fun i _ => q - (intOf i).toNat)
            case atStart => exact ⟨0, Nat.zero_le _, rfl, Below.refl _ _⟩
            case round =>
              obtain ⟨m, hm, rfl, hnx4⟩ := hrel
              have hnx5 := hnx3.trans (hnx4.mono hnx3.size)
              by_cases hml : m < q
              · obtain ⟨x, hx⟩ : ∃ x, x = fr.getD m 0 := ⟨_, rfl⟩
                have hcx : wr.cell? ⟨bp, op + m, none⟩ = some (.int .i64 x) := by rw [hx]; exact (hnx5.cell (hbp (by omega))).trans (hcp m hml)
                have hix := index_slice Yba.underlying22 size3 hap cp hml
                have hcy : wr.cell? ⟨Fb, m, none⟩ = some (.int .i64 x) := by rw [hx]; exact ints_cell lfr (hB3.below hnx4 hB3.lt) m hml
                have hm' : (m : Int) < (q : Int) := by omega
                clear hx
                go_wp2
                go_quiet (fail)
                go_wp2
                go_roundw
                case rel => exact ⟨m + 1, by omega, by go_num, below_drewN hnx4 _⟩
                case measure => simp [intOf]; omega
              · go_wp2
                go_ret
                exact ⟨rfl, hnx5⟩

theorem a_long (ak ap : Option Addr) (lk ck lp cp : Nat) (sel : Int) (w : World) (h : 1024 < lk ∨ 1024 < lp) :
    Calls Yba.prog 3 #[.slice ak lk ck, .int .u16 sel, .slice ap lp cp] w fun e w' => e = .returned (.bool true) ∧ Below w.heap.size w w' := by
  by_cases h1 : 1024 < lk
  · have hd1 : decide ((1024 : Int) < (lk : Int)) = true := decide_eq_true (by omega)
    go_enter Yba.func3, Yba.ntmps3
    go_wp2
    go_ret
    exact ⟨rfl, Below.refl _ _⟩
  · have hd1 : decide ((1024 : Int) < (lk : Int)) = false := decide_eq_false (by omega)
    have hd2 : decide ((1024 : Int) < (lp : Int)) = true := decide_eq_true (by omega)
    go_enter Yba.func3, Yba.ntmps3
    go_wp2
    go_ret
    exact ⟨rfl, Below.refl _ _⟩
end Go.Proofs.Ybulkcsym
