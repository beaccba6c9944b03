/-
  OUR OWN. 'LawS4731BModel' (function 4): the walk.
-/
import Derived.Test.YbulkcsymNumberS
namespace Go.Proofs.Ybulkcsym.Numb
open Go.RowKit Go.Maps Go.Proofs.Ybulkcsym

/-- The list behind the first k integers. -/
def lst (vs : List Int) : Nat → List Int
  | 0 => []
  | k + 1 => ext (lst vs k) (vs.getD k 0)
theorem ext_length (d : List Int) (x : Int) : (ext d x).length ≤ d.length + 1 := by unfold ext; split <;> simp
theorem lst_length (vs : List Int) : ∀ k, (lst vs k).length ≤ k
  | 0 => Nat.le_refl _
  | k + 1 => by have := lst_length vs k; have := ext_length (lst vs k) (vs.getD k 0); unfold lst; omega

theorem St.start (w : World) (cs : Array Value) (hcs : cs = #[.slice none 0 0, .map none, .slice none 0 0]) : St w (w.alloc (.cells cs 43)) w.heap.size (w.heap.size + 1) [] [] (.slice none 0 0) (.map none) (.slice none 0 0) 0 (.slice none 0 0) [] := by
  subst hcs
  refine ⟨⟨Blk.made w _ 43, .inl ⟨rfl, rfl⟩, Nat.zero_le _, fun _ _ _ => rfl, .inl ⟨rfl, fun x => ?_⟩, World.ownsRow_nil _ _ _ _⟩, World.ownsRow_nil _ _ _ _, fun g hg => by simp [Value.ownBlock] at hg, (Below.refl _ _).alloc (Nat.le_refl _) _, Nat.le_refl _, Nat.lt_succ_self _, by simp⟩
  unfold largeAt
  split <;> simp [idx]

/-- 'd = append(d, v)': the law's own list. -/
theorem St.appendDat {w0 w w1 : World} {N base : Nat} {d dl ld : List Int} {sv mv vv dd : Value} {n : Nat} {O : Obj} {x : Int} {g cap H : Nat} (h : St w0 w N base d dl sv mv vv n dd ld)
    (hown : w1.ownsRow base 2 1 (.slice (some ⟨g, 0, none⟩) (ld.length + 1) cap) (ld.length + 1) (ld.map (Value.int .i64) ++ [.int .i64 x])) (hg : (w.alloc O).grownBy w1 dd.ownBlock) (hH : w.heap.size ≤ H) (hat : dd.ownBlock = some g ∨ g = H) :
    St w0 w1 N base d dl sv mv vv n (.slice (some ⟨g, 0, none⟩) (ld.length + 1) cap) (ld ++ [x]) := by
  have ha := h.alloc O
  have hn := h.new
  refine ⟨ha.num.kept hg (fun e => ?_) (fun b hb e => (ha.sv_ne b hb).2.1 e.symm) (fun B hB e => (ha.mv_ne B hB).2.1 e.symm) ?_, ?_, ?_, ?_, h.old, h.new, Nat.le_trans ha.room hg.size⟩
  · have := (h.dat.lt N e.symm).1; omega
  · cases hv : vv.ownBlock with
    | none => exact .inl rfl
    | some b => exact .inr (fun e => h.apart b e.symm hv)
  · simpa using hown
  · intro b hb hv
    simp [Value.ownBlock] at hb
    subst hb
    rcases hat with e | e
    · exact h.apart g e hv
    · have := (h.num.vals.lt g hv).2; omega
  · exact ha.below.grown hg ha.below.size (fun b hb => by have := (h.dat.lt b hb).1; have := h.old; omega)

theorem pre_dat {w0 w : World} {N base : Nat} {d dl ld : List Int} {sv mv vv dd : Value} {n : Nat} (h : St w0 w N base d dl sv mv vv n dd ld) (x : Int) :
    Hid ((w.alloc (.cells #[.int .i64 x] 2)).ownsRow base 2 1 dd ld.length (ld.map (Value.int .i64))) ∧
    Hid (∀ j u, [Value.int .i64 x][j]? = some u → (w.alloc (.cells #[.int .i64 x] 2)).cell? ((⟨w.heap.size, 0, none⟩ : Addr).add j) = some u) ∧
    Hid (∀ u ∈ [Value.int .i64 x], u.oneCell' = true) := by
  refine ⟨h.dat.alloc _, World.news_of_block (Blk.made w _ 2), ?_⟩
  intro u hu; simp at hu; subst hu; rfl

/-- The checks at the head of a round. -/
theorem St.check {w0 w : World} {N base : Nat} {d : List Int} {sv mv vv dd : Value} {n : Nat} (h : St w0 w N base d d sv mv vv n dd d) (hd : d.length ≤ 1024) (x : Int) (hw : (Lit.int .i64 x).wf = true) :
    Calls Yba.prog 7 #[.pointer (some ⟨N, 0, none⟩), dd, .int .i64 x] w fun e w' => e = .returned (.bool true) ∧ w = w' := by
  refine (check_any w N base d sv mv vv dd n x h.num (Reads.of_row h.dat) hd hw).mono ?_
  rintro e w' ⟨he, hw'⟩
  exact ⟨he, hw'.symm⟩

set_option maxRecDepth 100000 in
set_option maxHeartbeats 1000000 in
theorem b_walk (ak ap : Option Addr) (lk ck lp cp bk ok bp op : Nat) (vs qs : List Int) (w : World)
    (hak : 0 < lk → ak = some ⟨bk, ok, none⟩) (hap : 0 < lp → ap = some ⟨bp, op, none⟩) (lvs : vs.length = lk) (lqs : qs.length = lp)
    (hwv : ∀ x ∈ vs, (Lit.int .i64 x).wf = true) (hwq : ∀ x ∈ qs, (Lit.int .i64 x).wf = true)
    (hck : ∀ i, i < lk → w.cell? ⟨bk, ok + i, none⟩ = some (.int .i64 (vs.getD i 0))) (hcp : ∀ i, i < lp → w.cell? ⟨bp, op + i, none⟩ = some (.int .i64 (qs.getD i 0)))
    (hbk : 0 < lk → bk < w.heap.size) (hbp : 0 < lp → bp < w.heap.size) (hk : lk ≤ 1024) (hp : lp ≤ 1024) :
    Calls Yba.prog 4 #[.slice ak lk ck, .slice ap lp cp] w fun e w' => e = .returned (.bool true) ∧ Below w.heap.size w w' := by
  have hd1 : decide ((1024 : Int) < (lk : Int)) = false := decide_eq_false (by omega)
  have hd2 : decide ((1024 : Int) < (lp : Int)) = false := decide_eq_false (by omega)
  have hV : ∀ i, i < lk → (Lit.int .i64 (vs.getD i 0)).wf = true := fun i hi => by rw [List.getD, List.getElem?_eq_getElem (by omega)]; exact hwv _ (List.getElem_mem _)
  have hQ : ∀ i, i < lp → (Lit.int .i64 (qs.getD i 0)).wf = true := fun i hi => by rw [List.getD, List.getElem?_eq_getElem (by omega)]; exact hwq _ (List.getElem_mem _)
  have HV := hide hV
  have HQ := hide hQ
  clear hV hQ hwv hwq
  go_enter Yba.func4, Yba.ntmps4
  go_wp2
  go_loopw [6, 26] (fun s6 i wr => ∃ (k : Nat) (sv mv vv : Value) (n : Nat), k ≤ lk ∧ i = .int .i64 k ∧ St w wr w.heap.size (w.heap.size + 1) (lst vs k) (lst vs k) sv mv vv n s6 (lst vs k)) (fun _ i _ => lk - (intOf i).toNat)
  case atStart => exact ⟨0, _, _, _, _, Nat.zero_le _, rfl, St.start w _ rfl⟩
  case round =>
    obtain ⟨k, sv, mv, vv, n, hkl, rfl, hS⟩ := hrel
    have hlen := lst_length vs k
    by_cases hlt : k < lk
    · obtain ⟨x, hx⟩ : ∃ x, x = vs.getD k 0 := ⟨_, rfl⟩
      have hcx : wr.cell? ⟨bk, ok + k, none⟩ = some (.int .i64 x) := by rw [hx]; exact (hS.below.cell (hbk (by omega))).trans (hck k hlt)
      have hix := index_slice Yba.underlying39 size2 hak ck hlt
      have hwx : (Lit.int .i64 x).wf = true := by rw [hx]; exact HV.out k hlt
      have HL : Hid (lst vs (k + 1) = ext (lst vs k) x) := by rw [hx]; rfl
      clear hx
      have HC := hide (fun y hy => hS.check (by omega) y hy)
      have HI := hide (index_any u6 (lst vs k) x wr (by omega) (Reads.of_row hS.dat))
      cases hi : idx (lst vs k) x with
      | some i =>
        have hil := idx_lt _ _ i hi
        have e1 : idxI (lst vs k) x = (i : Nat) := idxI_old hi
        have e2 : ext (lst vs k) x = lst vs k := ext_old hi
        have HI' := HI.out
        rw [e1] at HI'
        have HI2 := hide HI'
        have HN := Number_any w wr w.heap.size (w.heap.size + 1) (lst vs k) (lst vs k) sv mv vv u6 n x hS (by omega) hwx
        rw [e2, e1] at HN
        have HN2 := hide HN
        have HE := hide e2
        have HX1 := hide e1
        have h0 : ¬ (i : Int) < 0 := by omega
        clear HI HI' HN e1 e2 hi
        go_wp2_with fail
        refine (HC.out x hwx).mono ?_
        rintro e w' ⟨rfl, rfl⟩
        go_wp2_with fail
        refine (HC.out (wrap64 (x + 1)) (wrap64_wf _)).mono ?_
        rintro e w' ⟨rfl, rfl⟩
        go_wp2_with fail
        refine (HC.out (wrap64 (x - 1)) (wrap64_wf _)).mono ?_
        rintro e w' ⟨rfl, rfl⟩
        go_wp2_with fail
        refine HI2.out.mono ?_
        rintro e w' ⟨rfl, hww⟩
        obtain rfl : wr = w' := hww.symm
        go_wp2_with fail
        refine HN2.out.mono ?_
        rintro e w2 ⟨rfl, sv', mv', vv', n', hS2⟩
        have HI3 := hide (index_any u6 (lst vs k) x w2 (by omega) (Reads.of_row hS2.dat))
        have HC2 := hide (fun y hy => hS2.check (by omega) y hy)
        rw [HX1.out] at HI3
        go_wp2_with fail
        refine HI3.out.mono ?_
        rintro e w' ⟨rfl, hww⟩
        obtain rfl : w2 = w' := hww.symm
        go_wp2_with fail
        refine (HC2.out x hwx).mono ?_
        rintro e w' ⟨rfl, rfl⟩
        go_wp2_with fail
        refine (HC2.out (wrap64 (x + 1)) (wrap64_wf _)).mono ?_
        rintro e w' ⟨rfl, rfl⟩
        go_wp2_with fail
        go_roundw
        case rel => exact ⟨k + 1, sv', mv', vv', n', by omega, by go_num, by rw [HL.out, HE.out]; exact hS2⟩
        case measure => simp [intOf]; omega
      | none =>
        have e1 : idxI (lst vs k) x = -1 := by simp [idxI, hi]
        have e2 : ext (lst vs k) x = lst vs k ++ [x] := ext_new hi
        have e3 : idxI (lst vs k ++ [x]) x = ((lst vs k).length : Nat) := idxI_new hi
        have HI' := HI.out
        rw [e1] at HI'
        have HI2 := hide HI'
        have HE := hide e2
        have HX1 := hide e3
        obtain ⟨HO, HN, H1⟩ := pre_dat hS x
        obtain ⟨i0, hi2, hz0, hz1, hz2⟩ := info_parts info2
        obtain ⟨ll, hll⟩ : ∃ ll, ll = (lst vs k).length := ⟨_, rfl⟩
        have HLL := hide hll
        rw [← hll] at HO HX1
        have hl2 : ll ≤ k := by omega
        have hrm := hS.room
        clear HI HI' e1 e2 e3 hi hll
        go_wp2_with fail
        refine (HC.out x hwx).mono ?_
        rintro e w' ⟨rfl, rfl⟩
        go_wp2_with fail
        refine (HC.out (wrap64 (x + 1)) (wrap64_wf _)).mono ?_
        rintro e w' ⟨rfl, rfl⟩
        go_wp2_with fail
        refine (HC.out (wrap64 (x - 1)) (wrap64_wf _)).mono ?_
        rintro e w' ⟨rfl, rfl⟩
        go_wp2_with fail
        refine HI2.out.mono ?_
        rintro e w' ⟨rfl, hww⟩
        obtain rfl : wr = w' := hww.symm
        go_wp2_with (at_builtin; refine wpList_append_lies _ rfl (.tmp 55) (.tmp 57) 39 rfl (w.heap.size + 1) 2 i0 (.int .i64 0) 1 8 Yba.underlying39 hi2 hz0 hz1 hz2 rfl (by decide) _ ll _ rfl HO.out ⟨wr.heap.size, 0, none⟩ 1 1 _ rfl rfl HN.out H1.out (by omega) (by unfold maxLen; omega) (by omega) (by simp; omega) _ rfl ?_; intro g cap w1 hown1 hgrow1 hat1 hlt1)
        have hS1 : St w w1 w.heap.size (w.heap.size + 1) (lst vs k) (lst vs k) sv mv vv n (.slice (some ⟨g, 0, none⟩) (ll + 1) cap) (lst vs k ++ [x]) := by
          have e := HLL.out
          subst e
          exact hS.appendDat hown1 hgrow1 (by simp) hat1
        have hNN := Number_any w w1 w.heap.size (w.heap.size + 1) (lst vs k) (lst vs k ++ [x]) sv mv vv (.slice (some ⟨g, 0, none⟩) (ll + 1) cap) n x hS1 (by omega) hwx
        rw [HE.out, HX1.out] at hNN
        refine hNN.mono ?_
        rintro e w2 ⟨rfl, sv', mv', vv', n', hS2⟩
        have HI3 := hide (index_any (.slice (some ⟨g, 0, none⟩) (ll + 1) cap) (lst vs k ++ [x]) x w2 (by simp; omega) (Reads.of_row hS2.dat))
        have HC2 := hide (fun y hy => hS2.check (by simp; omega) y hy)
        rw [HX1.out] at HI3
        go_wp2_with fail
        refine HI3.out.mono ?_
        rintro e w' ⟨rfl, hww⟩
        obtain rfl : w2 = w' := hww.symm
        go_wp2_with fail
        refine (HC2.out x hwx).mono ?_
        rintro e w' ⟨rfl, rfl⟩
        go_wp2_with fail
        refine (HC2.out (wrap64 (x + 1)) (wrap64_wf _)).mono ?_
        rintro e w' ⟨rfl, rfl⟩
        go_wp2_with fail
        go_roundw
        case rel => exact ⟨k + 1, sv', mv', vv', n', by omega, by go_num, by rw [HL.out, HE.out]; exact hS2⟩
        case measure => simp [intOf]; omega
    · obtain rfl : k = lk := by omega
      have HC := hide (fun y hy => hS.check (by omega) y hy)
      go_wp2
      go_loop [83] (fun i => ∃ q : Nat, q ≤ lp ∧ i = .int .i64 q) (fun i => lp - (intOf i).toNat)
      case atStart => exact ⟨0, Nat.zero_le _, rfl⟩
      case round =>
        obtain ⟨q, hq, rfl⟩ := hrel
        by_cases hql : q < lp
        · obtain ⟨x, hx⟩ : ∃ x, x = qs.getD q 0 := ⟨_, rfl⟩
          have hcx : wr.cell? ⟨bp, op + q, none⟩ = some (.int .i64 x) := by rw [hx]; exact (hS.below.cell (hbp (by omega))).trans (hcp q hql)
          have hix := index_slice Yba.underlying39 size2 hap cp hql
          have hwx : (Lit.int .i64 x).wf = true := by rw [hx]; exact HQ.out q hql
          clear hx
          go_wp2_with fail
          refine (HC.out x hwx).mono ?_
          rintro e w' ⟨rfl, rfl⟩
          go_wp2_with fail
          go_round
          case rel => exact ⟨q + 1, by omega, by go_num⟩
          case measure => simp [intOf]; omega
        · go_wp2
          go_loop [95] (fun i => ∃ m : Nat, m ≤ k ∧ i = .int .i64 m) (fun i => k - (intOf i).toNat)
          case atStart => exact ⟨0, Nat.zero_le _, rfl⟩
          case round =>
            obtain ⟨m, hm, rfl⟩ := hrel
            by_cases hml : m < k
            · obtain ⟨x, hx⟩ : ∃ x, x = vs.getD m 0 := ⟨_, rfl⟩
              have hcx : wr.cell? ⟨bk, ok + m, none⟩ = some (.int .i64 x) := by rw [hx]; exact (hS.below.cell (hbk (by omega))).trans (hck m hml)
              have hix := index_slice Yba.underlying39 size2 hak ck hml
              have hwx : (Lit.int .i64 x).wf = true := by rw [hx]; exact HV.out m hml
              clear hx
              go_wp2_with fail
              refine (HC.out x hwx).mono ?_
              rintro e w' ⟨rfl, rfl⟩
              go_wp2_with fail
              go_round
              case rel => exact ⟨m + 1, by omega, by go_num⟩
              case measure => simp [intOf]; omega
            · obtain ⟨ll, hll⟩ : ∃ ll, ll = (lst vs k).length := ⟨_, rfl⟩
              obtain ⟨da, dc, hdd, _, _⟩ := ownsRow_slice hS.dat
              have hL := len_any wr w.heap.size (w.heap.size + 1) (lst vs k) sv mv vv n hS.num
              have hVl := values_any wr w.heap.size (w.heap.size + 1) (lst vs k) sv mv vv n hS.num
              have hSm := same_any wr (lst vs k) vv u6 (Reads.of_row hS.num.vals) (Reads.of_row hS.dat) (by omega)
              rw [← hll] at hL hdd
              rw [hdd] at hSm
              have HLn := hide hL
              have HVl := hide hVl
              have HSm := hide hSm
              have hbl := hS.below
              clear hL hVl hSm hll HC HV HQ hS
              subst hdd
              go_wp2_with fail
              refine HLn.out.mono ?_
              rintro e w' ⟨rfl, hww⟩
              obtain rfl : wr = w' := hww.symm
              go_wp2_with fail
              refine HVl.out.mono ?_
              rintro e w' ⟨rfl, hww⟩
              obtain rfl : wr = w' := hww.symm
              go_wp2_with fail
              refine HSm.out.mono ?_
              rintro e w' ⟨rfl, hb2⟩
              go_wp2_with fail
              go_ret
              exact ⟨rfl, hbl.trans (hb2.mono hbl.size)⟩

theorem b_long (ak ap : Option Addr) (lk ck lp cp : Nat) (w : World) (h : 1024 < lk ∨ 1024 < lp) :
    Calls Yba.prog 4 #[.slice ak lk ck, .slice ap lp cp] w fun e w' => e = .returned (.bool true) ∧ Below w.heap.size w w' := by
  by_cases h1 : 1024 < lk
  · have hd1 : decide ((1024 : Int) < (lk : Int)) = true := decide_eq_true (by omega)
    go_enter Yba.func4, Yba.ntmps4
    go_wp2
    go_ret
    exact ⟨rfl, Below.refl _ _⟩
  · have hd1 : decide ((1024 : Int) < (lk : Int)) = false := decide_eq_false (by omega)
    have hd2 : decide ((1024 : Int) < (lp : Int)) = true := decide_eq_true (by omega)
    go_enter Yba.func4, Yba.ntmps4
    go_wp2
    go_ret
    exact ⟨rfl, Below.refl _ _⟩
end Go.Proofs.Ybulkcsym.Numb
