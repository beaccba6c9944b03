/-
  OUR OWN. '(*Numbering).number' (18), '(*Numbering).Number' (9).
-/
import Derived.Test.YbulkcsymSteps
import Derived.Deep.DeepCutAuto
import Derived.WalkSpells
namespace Go.Proofs.Ybulkcsym.Numb
open Go.RowKit Go.Maps Go.Proofs.Ybulkcsym

/-- The list behind 'Number(x)'. -/
def ext (d : List Int) (x : Int) : List Int := if (idx d x).isSome then d else d ++ [x]
theorem info2 : (Yba.prog.info? 2).map (fun i => (i.zero, i.size, i.bytes)) = some (some (.int .i64 0), 1, 8) := by kernel_rfl
theorem info3' : (Yba.prog.info? 3).map (fun i => (i.zero, i.size, i.bytes)) = some (some (.int .i64 0), 1, 8) := by kernel_rfl

theorem ext_old {d : List Int} {x : Int} {i : Nat} (h : idx d x = some i) : ext d x = d := by simp [ext, h]
theorem ext_new {d : List Int} {x : Int} (h : idx d x = none) : ext d x = d ++ [x] := by simp [ext, h]
theorem idxI_new {d : List Int} {x : Int} (h : idx d x = none) : idxI (d ++ [x]) x = d.length := by simp [idxI, idx_snoc, h]
theorem idxI_old {d : List Int} {x : Int} {i : Nat} (h : idx d x = some i) : idxI d x = i := by simp [idxI, h]

set_option maxHeartbeats 400000 in
theorem number_old (w : World) (N base : Nat) (d : List Int) (sv mv vv : Value) (n : Nat) (x : Int) (i : Nat) (h : Num w N base d d sv mv vv n) (hd : d.length ≤ 1024) (hw : (Lit.int .i64 x).wf = true) (hi : idx d x = some i) :
    Calls Yba.prog 18 #[.pointer (some ⟨N, 0, none⟩), .int .i64 x] w fun e w' => e = .returned (.int .i64 (i : Nat)) ∧ w' = w := by
  have hf := find_any w N base d sv mv vv n x h hd hw
  rw [show findN d x = i by simp [findN, hi], show findB d x = true by simp [findB, hi]] at hf
  have HF := hide hf
  clear hf h hi
  go_enter Yba.func18, Yba.ntmps18
  go_wp2_with (go_at_call 17; refine HF.out.mono ?_; rintro e w' ⟨rfl, rfl⟩)
  go_ret
  exact ⟨rfl, rfl⟩

/-- What the append to 'values' wants to know. -/
theorem pre_append {w0 w : World} {N base : Nat} {d ld : List Int} {sv mv vv dd : Value} {n : Nat} (h : St w0 w N base d d sv mv vv n dd ld) (x : Int) :
    Hid ((w.alloc (.cells #[.int .i64 x] 2)).ownsRow base 2 1 vv d.length (d.map (Value.int .i64))) ∧
    Hid (∀ j u, [Value.int .i64 x][j]? = some u → (w.alloc (.cells #[.int .i64 x] 2)).cell? ((⟨w.heap.size, 0, none⟩ : Addr).add j) = some u) ∧
    Hid (∀ u ∈ [Value.int .i64 x], u.oneCell' = true) ∧
    Hid (∀ w1 : World, (w.alloc (.cells #[.int .i64 x] 2)).grownBy w1 vv.ownBlock → w1.cell? ⟨N, 2, none⟩ = some vv ∧ w1.frozen? ⟨N, 2, none⟩ = false) := by
  refine ⟨h.num.vals.alloc _, World.news_of_block (Blk.made w _ 2), ?_, ?_⟩
  · intro u hu; simp at hu; subst hu; rfl
  · intro w1 hg
    have hs := h.num.self.alloc (.cells #[.int .i64 x] 2)
    have h1 := hs.grown hg (fun e => ownsRow_ne_blk (h.num.vals.alloc (.cells #[.int .i64 x] 2)) hs (by decide) e.symm)
    exact ⟨h1.cell rfl, h1.free 2⟩

set_option maxRecDepth 100000 in
set_option maxHeartbeats 1000000 in
theorem number_large (w0 w : World) (N base : Nat) (d ld : List Int) (sv mv vv dd : Value) (n : Nat) (x : Int) (h : St w0 w N base d d sv mv vv n dd ld) (hd : d.length < 1024) (hw : (Lit.int .i64 x).wf = true) (hi : idx d x = none) (hx : ¬ (0 ≤ x ∧ x < 65536)) :
    Calls Yba.prog 18 #[.pointer (some ⟨N, 0, none⟩), .int .i64 x] w fun e w' => e = .returned (.int .i64 (d.length : Nat)) ∧ ∃ sv' mv' vv' n', St w0 w' N base (d ++ [x]) (d ++ [x]) sv' mv' vv' n' dd ld := by
  have hf := find_any w N base d sv mv vv n x h.num (by omega) hw
  rw [show findN d x = 0 by simp [findN, hi], show findB d x = false by simp [findB, hi]] at hf
  have HF := hide hf
  have HI := hide hi
  have HX := hide hx
  obtain ⟨HO, HN, H1, HR⟩ := pre_append h x
  obtain ⟨i0, hi2, hz0, hz1, hz2⟩ := info_parts info2
  obtain ⟨va, vc, hvv, _, _⟩ := ownsRow_slice h.num.vals
  have c2 : w.cell? ⟨N, 2, none⟩ = some vv := h.num.self.cell rfl
  have hNl := h.num.self.lt
  have hkey := keyOf_int_mk (P := Yba.prog) Yba.underlying2 hw
  have hroom := h.room
  have hdl : (d.length : Int) < 1024 := by omega
  clear hf hi hx
  obtain ⟨L, hL⟩ : ∃ L, L = d.length := ⟨_, rfl⟩
  have HLL := hide hL
  rw [← hL] at HO hvv hd hdl ⊢
  clear hL
  rw [hvv] at c2 HO HR
  have HV := hide hvv
  clear hvv
  by_cases h0 : x < 0
  · go_enter Yba.func18, Yba.ntmps18
    go_upto_region 5 with (go_at_call 17; refine HF.out.mono ?_; rintro e w' ⟨rfl, hww⟩; obtain rfl : w = w' := hww.symm)
    go_cut [] (fun wc => ∃ vv', St w0 wc N base d (d ++ [x]) sv mv vv' n dd ld)
    case first =>
      go_wp2_with (at_builtin; refine wpList_append_lies _ rfl (.tmp 26) (.tmp 28) 39 rfl base 2 i0 (.int .i64 0) 1 8 Yba.underlying39 hi2 hz0 hz1 hz2 rfl (by decide) _ L _ rfl HO.out ⟨w.heap.size, 0, none⟩ 1 1 _ rfl rfl HN.out H1.out (by omega) (by unfold maxLen; omega) (by omega) (by simp; omega) _ rfl ?_; intro g cap w1 hown1 hgrow1 hat1 hlt1; obtain ⟨c21, f21⟩ := HR.out w1 hgrow1)
      go_meet
      case rel =>
        have e := HLL.out
        subst e
        have e2 := HV.out
        subst e2
        exact ⟨_, h.append hown1 hgrow1 (by simp) hat1⟩
    case rest =>
      obtain ⟨vv', hS⟩ := hcut
      clear HO HN H1 HR HF c2 h HV
      have c1 : wc.cell? ⟨N, 1, none⟩ = some mv := hS.num.self.cell rfl
      have f1 : wc.frozen? ⟨N, 1, none⟩ = false := hS.num.self.free 1
      have hNc := hS.num.self.lt
      have q1 := fun (w : World) (r : Option Nat) => run_eql_map_nil (P := Yba.prog) w 41 2 3 r Yba.underlying41
      rcases hS.num.lrg with ⟨hmv, _⟩ | ⟨B, sz, hmv, _, hsz, hM⟩
      · subst hmv
        have hmm := @run_makeMap Yba.prog
        have hS2 := hS.mapNew
        rw [World.setCell_alloc_past (w := wc) (.map #[] 0) N 1 (.map (some wc.heap.size)) hNc] at hS2
        rcases hS2.num.lrg with ⟨hmv, _⟩ | ⟨B, sz, hmv, _, hsz, hM⟩
        · simp at hmv
        · simp at hmv
          subst hmv
          have hszL : sz < 1024 := by have := HLL.out; omega
          go_wp2_with (at_mapUpdate; refine wpList_put _ rfl _ _ _ 41 rfl 2 3 law2 Yba.underlying41 wc.heap.size sz _ rfl hM (by unfold maxLen; omega) int_inj _ _ x rfl rfl hkey ?_; intro w3 hM3 ht3)
          go_ret
          refine ⟨rfl, sv, .map (some wc.heap.size), vv', n, ?_⟩
          have e := HLL.out
          subst e
          exact hS2.mapPut HX.out HI.out hsz hM3 ht3
      · subst hmv
        have hszL : sz < 1024 := by have := HLL.out; omega
        go_wp2_with (at_mapUpdate; refine wpList_put _ rfl _ _ _ 41 rfl 2 3 law2 Yba.underlying41 B sz _ rfl hM (by unfold maxLen; omega) int_inj _ _ x rfl rfl hkey ?_; intro w3 hM3 ht3)
        go_ret
        refine ⟨rfl, sv, .map (some B), vv', n, ?_⟩
        have e := HLL.out
        subst e
        exact hS.mapPut HX.out HI.out hsz hM3 ht3
  · have h65 : ¬ x < 65536 := fun hlt => HX.out ⟨by omega, hlt⟩
    have h00 : 0 ≤ x := by omega
    go_enter Yba.func18, Yba.ntmps18
    go_upto_region 5 with (go_at_call 17; refine HF.out.mono ?_; rintro e w' ⟨rfl, hww⟩; obtain rfl : w = w' := hww.symm)
    go_cut [] (fun wc => ∃ vv', St w0 wc N base d (d ++ [x]) sv mv vv' n dd ld)
    case first =>
      go_wp2_with (at_builtin; refine wpList_append_lies _ rfl (.tmp 26) (.tmp 28) 39 rfl base 2 i0 (.int .i64 0) 1 8 Yba.underlying39 hi2 hz0 hz1 hz2 rfl (by decide) _ L _ rfl HO.out ⟨w.heap.size, 0, none⟩ 1 1 _ rfl rfl HN.out H1.out (by omega) (by unfold maxLen; omega) (by omega) (by simp; omega) _ rfl ?_; intro g cap w1 hown1 hgrow1 hat1 hlt1; obtain ⟨c21, f21⟩ := HR.out w1 hgrow1)
      go_meet
      case rel =>
        have e := HLL.out
        subst e
        have e2 := HV.out
        subst e2
        exact ⟨_, h.append hown1 hgrow1 (by simp) hat1⟩
    case rest =>
      obtain ⟨vv', hS⟩ := hcut
      clear HO HN H1 HR HF c2 h HV
      have c1 : wc.cell? ⟨N, 1, none⟩ = some mv := hS.num.self.cell rfl
      have f1 : wc.frozen? ⟨N, 1, none⟩ = false := hS.num.self.free 1
      have hNc := hS.num.self.lt
      have q1 := fun (w : World) (r : Option Nat) => run_eql_map_nil (P := Yba.prog) w 41 2 3 r Yba.underlying41
      rcases hS.num.lrg with ⟨hmv, _⟩ | ⟨B, sz, hmv, _, hsz, hM⟩
      · subst hmv
        have hmm := @run_makeMap Yba.prog
        have hS2 := hS.mapNew
        rw [World.setCell_alloc_past (w := wc) (.map #[] 0) N 1 (.map (some wc.heap.size)) hNc] at hS2
        rcases hS2.num.lrg with ⟨hmv, _⟩ | ⟨B, sz, hmv, _, hsz, hM⟩
        · simp at hmv
        · simp at hmv
          subst hmv
          have hszL : sz < 1024 := by have := HLL.out; omega
          go_wp2_with (at_mapUpdate; refine wpList_put _ rfl _ _ _ 41 rfl 2 3 law2 Yba.underlying41 wc.heap.size sz _ rfl hM (by unfold maxLen; omega) int_inj _ _ x rfl rfl hkey ?_; intro w3 hM3 ht3)
          go_ret
          refine ⟨rfl, sv, .map (some wc.heap.size), vv', n, ?_⟩
          have e := HLL.out
          subst e
          exact hS2.mapPut HX.out HI.out hsz hM3 ht3
      · subst hmv
        have hszL : sz < 1024 := by have := HLL.out; omega
        go_wp2_with (at_mapUpdate; refine wpList_put _ rfl _ _ _ 41 rfl 2 3 law2 Yba.underlying41 B sz _ rfl hM (by unfold maxLen; omega) int_inj _ _ x rfl rfl hkey ?_; intro w3 hM3 ht3)
        go_ret
        refine ⟨rfl, sv, .map (some B), vv', n, ?_⟩
        have e := HLL.out
        subst e
        exact hS.mapPut HX.out HI.out hsz hM3 ht3
end Go.Proofs.Ybulkcsym.Numb
