/-
  OUR OWN. 'LawS4726BScript' (function 5).
-/
import Derived.Test.YbulkcsvuAdd
import Derived.Deep.DeepAppendRoom
import Derived.Deep.AppendLies
import Derived.Deep.Onto
namespace Go.Proofs.Ybulkcsvu
open Go.RowKit Go.Maps

theorem ownsRow_block {w w' : World} {base g n cap size : Nat} {e : TypeId} {xs : List Value} (h : w.ownsRow base e size (.slice (some ⟨g, 0, none⟩) n cap) n xs) (hb : w'.heap[g]? = w.heap[g]?) : w'.ownsRow base e size (.slice (some ⟨g, 0, none⟩) n cap) n xs := by
  refine ⟨h.1, ?_⟩
  rcases h.2 with ⟨h0, _⟩ | ⟨g', c', cur, hv, h1, h2, h3⟩
  · cases h0
  · cases hv
    exact .inr ⟨g, cap, cur, rfl, h1, hb.trans h2, h3⟩

theorem map_blk {w : World} {base b : Nat} {mv : Option Nat} {vals : List Int} {e : TypeId} {L : List Value} (hm : mv = some b) (h : MapOf w base mv vals) (hb : Blk w b e L) : False := by
  rcases h with ⟨h, _⟩ | ⟨b', h0, _, _, h3⟩
  · rw [hm] at h; cases h
  · rw [hm] at h0
    cases h0
    exact map_ne_blk hb h3 rfl

/-- The law's own state between two steps: the counter, the two lists; 'base' is the first block behind them. -/
structure LS (w0 w : World) (n : Nat) (m1 m2 : Option Nat) (nn : Bool) (T Tr N Nr : List Int) : Prop where
  below : Below w0.heap.size w0 w
  c : Blk w w0.heap.size 39 (ctr m1 m2 nn)
  t : w.ownsRow (w0.heap.size + 1) 41 1 (.slice (some ⟨w0.heap.size + 1, 0, none⟩) Tr.length n) Tr.length (Tr.map U)
  nu : w.ownsRow (w0.heap.size + 2) 41 1 (.slice (some ⟨w0.heap.size + 2, 0, none⟩) Nr.length n) Nr.length (Nr.map U)
  mp1 : MapOf w (w0.heap.size + 3) m1 T
  mp2 : nn = false → MapOf w (w0.heap.size + 3) m2 N
  mp2n : nn = true → m2 = none
  ne : ∀ b, m1 = some b → m2 = some b → False
  size : w0.heap.size + 3 ≤ w.heap.size

section
variable {w0 w w' : World} {n : Nat} {m1 m2 : Option Nat} {nn : Bool} {T Tr N Nr : List Int}
/-- Whatever is written behind 'base' and is no map of ours. -/
theorem LS.later (h : LS w0 w n m1 m2 nn T Tr N Nr) (hb : Below w.heap.size w w') : LS w0 w' n m1 m2 nn T Tr N Nr := by
  have hs := h.size
  have hk : Kp (fun _ => False) w w' := ⟨hb.os, hb.tape, hb.output, hb.size, fun k hk _ => hb.block k hk⟩
  exact ⟨h.below.trans (hb.mono (by omega)), h.c.below hb h.c.lt, ownsRow_block h.t (hb.block _ (by omega)), ownsRow_block h.nu (hb.block _ (by omega)), h.mp1.kp hk (fun _ _ hf => hf), fun e => (h.mp2 e).kp hk (fun _ _ hf => hf), h.mp2n, h.ne, Nat.le_trans hs hb.size⟩
theorem LS.alloc (h : LS w0 w n m1 m2 nn T Tr N Nr) (o : Obj) : LS w0 (w.alloc o) n m1 m2 nn T Tr N Nr := h.later ((Below.refl _ _).alloc (Nat.le_refl _) o)
/-- Behind a step of the counter. -/
theorem LS.added {m1' m2' : Option Nat} {nn' : Bool} {T' N' : List Int} (h : LS w0 w n m1 m2 nn T Tr N Nr) (hc : Blk w' w0.heap.size 39 (ctr m1' m2' nn')) (h1 : MapOf w' (w0.heap.size + 3) m1' T') (h2 : nn' = false → MapOf w' (w0.heap.size + 3) m2' N') (h2n : nn' = true → m2' = none)
    (hne : ∀ b, m1' = some b → m2' = some b → False) (hk : Kp (fun k => k = w0.heap.size ∨ w0.heap.size + 3 ≤ k) w w') : LS w0 w' n m1' m2' nn' T' Tr N' Nr := by
  have hs := h.size
  exact ⟨hk.below h.below (by omega) (fun k he => by rcases he with he | he <;> omega), hc, ownsRow_block h.t (hk.block _ (by omega) (by omega)), ownsRow_block h.nu (hk.block _ (by omega) (by omega)), h1, h2, h2n, hne, Nat.le_trans hs hk.size⟩
theorem LS.pushT {x : Int} (h : LS w0 w n m1 m2 nn T Tr N Nr) (ho : w'.ownsRow (w0.heap.size + 1) 41 1 (.slice (some ⟨w0.heap.size + 1, 0, none⟩) (Tr.length + 1) n) (Tr.length + 1) (Tr.map U ++ [U x])) (hg : w.grownBy w' (some (w0.heap.size + 1))) :
    LS w0 w' n m1 m2 nn T (Tr ++ [x]) N Nr := by
  have hs := h.size
  have hk : Kp (fun k => k = w0.heap.size + 1) w w' := ⟨hg.os, hg.tape, hg.output, hg.size, fun k hk hn => hg.block k hk (by intro e; cases e; exact hn rfl)⟩
  have hm : ∀ {mv : Option Nat} {vals : List Int}, MapOf w (w0.heap.size + 3) mv vals → MapOf w' (w0.heap.size + 3) mv vals := fun hM => hM.kp hk (fun b hb he => by subst hb; have := hM.lt.1; omega)
  exact ⟨hk.below h.below (by omega) (fun k he => by omega), hk.blk h.c (by omega), by simpa using ho, ownsRow_block h.nu (hk.block _ (by omega) (by omega)), hm h.mp1, fun e => hm (h.mp2 e), h.mp2n, h.ne, Nat.le_trans hs hk.size⟩
theorem LS.pushN {x : Int} (h : LS w0 w n m1 m2 nn T Tr N Nr) (ho : w'.ownsRow (w0.heap.size + 2) 41 1 (.slice (some ⟨w0.heap.size + 2, 0, none⟩) (Nr.length + 1) n) (Nr.length + 1) (Nr.map U ++ [U x])) (hg : w.grownBy w' (some (w0.heap.size + 2))) :
    LS w0 w' n m1 m2 nn T Tr N (Nr ++ [x]) := by
  have hs := h.size
  have hk : Kp (fun k => k = w0.heap.size + 2) w w' := ⟨hg.os, hg.tape, hg.output, hg.size, fun k hk hn => hg.block k hk (by intro e; cases e; exact hn rfl)⟩
  have hm : ∀ {mv : Option Nat} {vals : List Int}, MapOf w (w0.heap.size + 3) mv vals → MapOf w' (w0.heap.size + 3) mv vals := fun hM => hM.kp hk (fun b hb he => by subst hb; have := hM.lt.1; omega)
  exact ⟨hk.below h.below (by omega) (fun k he => by omega), hk.blk h.c (by omega), ownsRow_block h.t (hk.block _ (by omega) (by omega)), by simpa using ho, hm h.mp1, fun e => hm (h.mp2 e), h.mp2n, h.ne, Nat.le_trans hs hk.size⟩
theorem row_cells {w : World} {base g cap : Nat} {vals : List Int} (h : w.ownsRow base 41 1 (.slice (some ⟨g, 0, none⟩) vals.length cap) vals.length (vals.map U)) : ∀ j u, (vals.map U)[j]? = some u → w.cell? ⟨g, 0 + j, none⟩ = some u := by
  intro j u hu
  have hj : j < vals.length := by simpa using (List.getElem?_eq_some_iff.1 hu).1
  rw [Nat.zero_add, h.cellAt j (by simpa using hj), hu]
theorem LS.same1 (h : LS w0 w n m1 m2 nn T T N Nr) {k : Nat} (hT : T.length = k) (hw : ∀ x ∈ T, (Lit.int .u64 x).wf = true) (hk : k ≤ 4096) :
    Calls Yba.prog 13 #[.pointer (some ⟨w0.heap.size, 0, none⟩), .slice (some ⟨w0.heap.size + 1, 0, none⟩) T.length n] w fun e w' => e = .returned (.bool true) ∧ Below w.heap.size w w' := by
  have hs := h.size
  rcases h.mp1 with ⟨rfl, rfl⟩ | ⟨b, rfl, _, hne, hM⟩
  · exact same_nil w0.heap.size 0 _ n w (h.c.cell rfl) (h.c.cell rfl) (by omega)
  · exact same_some w0.heap.size 0 _ n b T w (h.c.cell rfl) (h.c.cell rfl) (by omega) hM hne (by omega) hw (row_cells h.t)
theorem LS.same2 (h : LS w0 w n m1 m2 false T Tr N N) (hw : ∀ x ∈ N, (Lit.int .u64 x).wf = true) (hk : N.length ≤ 4096) :
    Calls Yba.prog 13 #[.pointer (some ⟨w0.heap.size, 2, none⟩), .slice (some ⟨w0.heap.size + 2, 0, none⟩) N.length n] w fun e w' => e = .returned (.bool true) ∧ Below w.heap.size w w' := by
  have hs := h.size
  rcases h.mp2 rfl with ⟨rfl, rfl⟩ | ⟨b, rfl, _, hne, hM⟩
  · exact same_nil w0.heap.size 2 _ n w (h.c.cell rfl) (h.c.cell rfl) (by omega)
  · exact same_some w0.heap.size 2 _ n b N w (h.c.cell rfl) (h.c.cell rfl) (by omega) hM hne (by omega) hw (row_cells h.nu)
theorem LS.forget (h : LS w0 w n m1 m2 true T Tr N Nr) (N' : List Int) : LS w0 w n m1 m2 true T Tr N' Nr := ⟨h.below, h.c, h.t, h.nu, h.mp1, (fun e => by simp at e), h.mp2n, h.ne, h.size⟩
theorem LS.start (w : World) (n : Nat) (hn : n ≤ 4096) :
    LS w (((w.alloc (.cells #[.map none, .slice none 0 0, .map none, .slice none 0 0, .bool false] 39)).alloc (.cells (madeCells #[.int .u64 0] n) 41)).alloc (.cells (madeCells #[.int .u64 0] n) 41)) n none none false [] [] [] [] := by
  have h1 := World.ownsRow_made (base := w.heap.size + 1) (e := 41) (size := 1) (w.alloc (.cells #[.map none, .slice none 0 0, .map none, .slice none 0 0, .bool false] 39)) (madeCells #[.int .u64 0] n) n (by simp) (by unfold maxLen; omega) (by simp [size_madeCells])
  have h2 := World.ownsRow_made (base := w.heap.size + 2) (e := 41) (size := 1) ((w.alloc (.cells #[.map none, .slice none 0 0, .map none, .slice none 0 0, .bool false] 39)).alloc (.cells (madeCells #[.int .u64 0] n) 41)) (madeCells #[.int .u64 0] n) n (by simp) (by unfold maxLen; omega) (by simp [size_madeCells])
  simp only [World.size_alloc] at h1 h2
  refine ⟨(((Below.refl _ _).alloc (Nat.le_refl _) _).alloc (by simp) _).alloc (by simp; omega) _, ((Blk.made w _ 39).alloc _).alloc _, ownsRow_block h1 (Below.heap_alloc _ _ _ (by simp)), h2, .inl ⟨rfl, rfl⟩, fun _ => .inl ⟨rfl, rfl⟩, (fun h => by simp at h), (fun b hb => by cases hb), by simp⟩
end

set_option maxRecDepth 100000 in
set_option maxHeartbeats 2000000 in
theorem law_walk (a : Option Addr) (n c sb so : Nat) (X Y : Nat → Int) (Z : Nat → Bool) (w : World) (ha : 0 < n → a = some ⟨sb, so, none⟩)
    (hx : ∀ i, i < n → w.cell? ⟨sb, so + i * 3, none⟩ = some (.int .u64 (X i))) (hy : ∀ i, i < n → w.cell? ⟨sb, so + i * 3 + 1, none⟩ = some (.int .u64 (Y i))) (hz : ∀ i, i < n → w.cell? ⟨sb, so + i * 3 + 2, none⟩ = some (.bool (Z i)))
    (hwx : ∀ i, i < n → (Lit.int .u64 (X i)).wf = true) (hwy : ∀ i, i < n → (Lit.int .u64 (Y i)).wf = true) (hsb : 0 < n → sb < w.heap.size) (hn : n ≤ 4096) :
    Calls Yba.prog 5 #[.slice a n c] w fun e w' => e = .returned (.bool true) ∧ Below w.heap.size w w' := by
  have HX := hide hx
  have HY := hide hy
  have HZ := hide hz
  have HWX := hide hwx
  have HWY := hide hwy
  have hd1 : decide ((4096 : Int) < (n : Int)) = false := decide_eq_false (by omega)
  obtain ⟨i0, hi, hz0, hz1, hz2⟩ := info_parts info41
  have hmk : ∀ w, (Instr.makeSlice 40 (.int .i64 0) (.int .i64 (n : Int))).run Yba.prog w = .ok (.slice (some ⟨w.heap.size, 0, none⟩) 0 n) (w.alloc (.cells (madeCells #[.int .u64 0] n) 41)) := by
    intro w
    have h := run_make (P := Yba.prog) w 40 41 i0 (.int .u64 0) Yba.underlying40 hi hz0 .i64 .i64 0 n (by omega) (by omega) (by rw [hz2]; omega) (by omega)
    rw [hz1] at h
    simpa [Value.cells] using h
  clear hx hy hz hwx hwy
  have hS0 := LS.start w n hn
  go_enter Yba.func5, Yba.ntmps5
  go_wp2
  clear hmk
  go_loopw [4, 5, 6, 7] (fun v4 v5 v6 v7 wr => ∃ (k : Nat) (m1 m2 : Option Nat) (nn : Bool) (T N : List Int) (q : Nat), k ≤ n ∧ T.length = k ∧ q = N.length ∧ q ≤ k ∧ v4 = .slice (some ⟨w.heap.size + 1, 0, none⟩) k n ∧ v5 = .slice (some ⟨w.heap.size + 2, 0, none⟩) q n ∧ v6 = .bool nn ∧ v7 = .int .i64 k ∧ LS w wr n m1 m2 nn T T N N ∧ (∀ x ∈ T, (Lit.int .u64 x).wf = true) ∧ (∀ x ∈ N, (Lit.int .u64 x).wf = true)) (fun _ _ _ v _ => n - (intOf v).toNat)
  case atStart => exact ⟨0, none, none, false, [], [], 0, Nat.zero_le _, rfl, rfl, Nat.le_refl _, rfl, rfl, rfl, rfl, hS0, fun x hx => by simp at hx, fun x hx => by simp at hx⟩
  case round =>
    clear hS0
    obtain ⟨k, m1, m2, nn, T, N, q, hk, hT, hN, hqk, rfl, rfl, rfl, rfl, hS, hwT, hwN⟩ := hrel
    by_cases hkn : k < n
    · have hg1 : decide ((k : Int) < (n : Int)) = true := decide_eq_true (by omega)
      have ha' := ha (by omega)
      subst ha'
      obtain ⟨x, hx⟩ : ∃ x, x = X k := ⟨_, rfl⟩
      obtain ⟨y, hy⟩ : ∃ y, y = Y k := ⟨_, rfl⟩
      obtain ⟨z, hz⟩ : ∃ z, z = Z k := ⟨_, rfl⟩
      have hsl := hsb (by omega)
      have cx : wr.cell? ⟨sb, so + k * 3, none⟩ = some (.int .u64 x) := by rw [hx]; exact (hS.below.cell (p := ⟨sb, so + k * 3, none⟩) hsl).trans (HX.out k hkn)
      have cy : wr.cell? ⟨sb, so + k * 3 + 1, none⟩ = some (.int .u64 y) := by rw [hy]; exact (hS.below.cell (p := ⟨sb, so + k * 3 + 1, none⟩) hsl).trans (HY.out k hkn)
      have cz : wr.cell? ⟨sb, so + k * 3 + 2, none⟩ = some (.bool z) := by rw [hz]; exact (hS.below.cell (p := ⟨sb, so + k * 3 + 2, none⟩) hsl).trans (HZ.out k hkn)
      have wx : (Lit.int .u64 x).wf = true := by rw [hx]; exact HWX.out k hkn
      have wy : (Lit.int .u64 y).wf = true := by rw [hy]; exact HWY.out k hkn
      clear hx hy hz
      have HT := hide hT
      have HN := hide hN
      have hsz := hS.size
      have C := hide (wadd w.heap.size (w.heap.size + 3) x y z nn m1 m2 T N _ (hS.alloc (.cells #[.int .u64 x, .int .u64 y, .bool z] 43)).c (by omega) (by simp; omega) (hS.alloc _).mp1 (hS.alloc _).mp2 hS.mp2n hS.ne wx wy (by omega) (by omega))
      have HSA := hide (hS.alloc (.cells #[.int .u64 x, .int .u64 y, .bool z] 43))
      have HBA := hide (Blk.made wr #[.int .u64 x, .int .u64 y, .bool z] 43)
      have HS := hide hS
      have HWT := hide hwT
      have HWN := hide hwN
      clear hS hT hN hwT hwN
      go_wp2_with fail
      refine C.out.mono ?_
      rintro e w1 ⟨rfl, m1', m2', hB, hM1, hM2, hM2n, hne, hK⟩
      have hsB : Blk w1 wr.heap.size 43 [.int .u64 x, .int .u64 y, .bool z] := hK.blk HBA.out (fun he => by
        rcases he with he | he | he
        · omega
        · exact map_blk he HSA.out.mp1 HBA.out
        · by_cases hnn : nn = true
          · rw [HS.out.mp2n hnn] at he; cases he
          · exact map_blk he (HSA.out.mp2 (by simpa using hnn)) HBA.out)
      have hS1 : LS w w1 n m1' m2' (nn || !z) (T ++ [x]) T (N ++ [y]) N := HSA.out.added hB hM1 hM2 hM2n hne (hK.mono (fun k _ he => by
        rcases he with he | he | he
        · exact .inl he
        · have := HS.out.mp1; rw [he] at this; exact .inr this.lt.1
        · by_cases hnn : nn = true
          · rw [HS.out.mp2n hnn] at he; cases he
          · have := HS.out.mp2 (by simpa using hnn); rw [he] at this; exact .inr this.lt.1))
      have hrl : wr.heap.size < w1.heap.size := hsB.lt
      have d0 : w1.cell? ⟨wr.heap.size, 0, none⟩ = some (.int .u64 x) := hsB.cell rfl
      have HO : Hid ((w1.alloc (.cells #[.int .u64 x] 41)).ownsRow (w.heap.size + 1) 41 1 (.slice (some ⟨w.heap.size + 1, 0, none⟩) k n) k (T.map U)) := by rw [← HT.out]; exact (hS1.alloc _).t
      have HNW := hide (World.news_of_block (Blk.made w1 #[.int .u64 x] 41))
      have H1 : Hid (∀ u ∈ [Value.int .u64 x], u.oneCell' = true) := by intro u hu; simp at hu; subst hu; rfl
      have HS1 := hide (hS1.alloc (.cells #[.int .u64 x] 41))
      have HSB := hide (hsB.alloc (.cells #[.int .u64 x] 41))
      have hne2 : wr.heap.size ≠ w.heap.size + 1 := by omega
      clear C hB hM1 hM2 hM2n hne hK HS HSA HBA hS1 hsB
      go_upto_region 13 with (at_builtin; refine wpList_append_own_spare _ rfl (.tmp 35) (.tmp 38) 40 rfl (w.heap.size + 1) 41 i0 1 Yba.underlying40 hi hz1 (w.heap.size + 1) k n _ rfl HO.out ⟨w1.heap.size, 0, none⟩ 1 1 _ rfl rfl HNW.out H1.out (by omega) ?_; intro w2 ho2 hg2)
      have hsB2 : Blk w2 wr.heap.size 43 [.int .u64 x, .int .u64 y, .bool z] := HSB.out.grown hg2 (fun e => hne2 (Option.some.inj e))
      have hS2 : LS w w2 n m1' m2' (nn || !z) (T ++ [x]) (T ++ [x]) (N ++ [y]) N := HS1.out.pushT (by rw [HT.out]; exact ho2) hg2
      have d1 : w2.cell? ⟨wr.heap.size, 1, none⟩ = some (.int .u64 y) := hsB2.cell rfl
      have d2 : w2.cell? ⟨wr.heap.size, 2, none⟩ = some (.bool z) := hsB2.cell rfl
      have hrl2 := hsB2.lt
      have hT1 : (T ++ [x]).length = k + 1 := by rw [List.length_append, HT.out]; rfl
      have hwT1 : ∀ u ∈ T ++ [x], (Lit.int .u64 u).wf = true := by
        intro u hu
        rcases List.mem_append.1 hu with h | h
        · exact HWT.out u h
        · rw [List.mem_singleton.1 h]; exact wx
      have HS2 := hide hS2
      have HT1 := hide hT1
      have HWT1 := hide hwT1
      clear HO HNW H1 HS1 HSB ho2 hg2 hsB2 hS2 d0 hT1 hwT1 hrl
      cases z with
      | false =>
        go_wp2
        go_roundw
        case rel => exact ⟨k + 1, m1', m2', true, T ++ [x], N, q, by omega, HT1.out, HN.out, by omega, rfl, rfl, rfl, by go_num, by have h := HS2.out; simp only [Bool.not_false, Bool.or_true] at h; exact h.forget N, HWT1.out, HWN.out⟩
        case measure => simp [intOf]; omega
      | true =>
        cases nn with
        | true =>
          go_wp2
          go_roundw
          case rel => exact ⟨k + 1, m1', m2', true, T ++ [x], N, q, by omega, HT1.out, HN.out, by omega, rfl, rfl, rfl, by go_num, by have h := HS2.out; simp only [Bool.true_or] at h; exact h.forget N, HWT1.out, HWN.out⟩
          case measure => simp [intOf]; omega
        | false =>
          have hS3 : LS w w2 n m1' m2' false (T ++ [x]) (T ++ [x]) (N ++ [y]) N := HS2.out
          have HO : Hid ((w2.alloc (.cells #[.int .u64 y] 41)).ownsRow (w.heap.size + 2) 41 1 (.slice (some ⟨w.heap.size + 2, 0, none⟩) q n) q (N.map U)) := by rw [HN.out]; exact (hS3.alloc _).nu
          have HNW := hide (World.news_of_block (Blk.made w2 #[.int .u64 y] 41))
          have H1 : Hid (∀ u ∈ [Value.int .u64 y], u.oneCell' = true) := by intro u hu; simp at hu; subst hu; rfl
          have HS3 := hide (hS3.alloc (.cells #[.int .u64 y] 41))
          clear hS3 HS2
          go_wp2_with (at_builtin; refine wpList_append_own_spare _ rfl (.tmp 45) (.tmp 48) 40 rfl (w.heap.size + 2) 41 i0 1 Yba.underlying40 hi hz1 (w.heap.size + 2) q n _ rfl HO.out ⟨w2.heap.size, 0, none⟩ 1 1 _ rfl rfl HNW.out H1.out (by omega) ?_; intro w3 ho3 hg3)
          go_roundw
          case rel =>
            refine ⟨k + 1, m1', m2', false, T ++ [x], N ++ [y], q + 1, by omega, HT1.out, by rw [List.length_append, HN.out]; rfl, by omega, rfl, rfl, rfl, by go_num, HS3.out.pushN (by rw [← HN.out]; exact ho3) hg3, HWT1.out, ?_⟩
            intro u hu
            rcases List.mem_append.1 hu with h | h
            · exact HWN.out u h
            · rw [List.mem_singleton.1 h]; exact wy
          case measure => simp [intOf]; omega
    · obtain rfl : k = n := by omega
      have hsz := hS.size
      have C1 := hide (hS.same1 hT hwT (by omega))
      rw [hT] at C1
      have HS := hide hS
      have HN := hide hN
      have HWN := hide hwN
      clear hS hN hwT hwN hT
      go_wp2_with fail
      refine C1.out.mono ?_
      rintro e w1 ⟨rfl, hb1⟩
      have hS1 := HS.out.later hb1
      have d4 : w1.cell? ⟨w.heap.size, 4, none⟩ = some (.bool nn) := hS1.c.cell rfl
      clear C1 HS
      cases nn with
      | true =>
        have hm2 := hS1.mp2n rfl
        subst hm2
        have q1 := fun (w : World) (r : Option Nat) => run_eql_map_nil (P := Yba.prog) w 35 41 69 r Yba.underlying35
        have q2 := fun (w : World) (a : Option Addr) (n c n' c' : Nat) => Lib.run_eql_slice_nil (P := Yba.prog) w 22 _ a n c n' c' Yba.underlying22
        have d2 : w1.cell? ⟨w.heap.size, 2, none⟩ = some (.map none) := hS1.c.cell rfl
        have d3 : w1.cell? ⟨w.heap.size, 3, none⟩ = some (.slice none 0 0) := hS1.c.cell rfl
        go_wp2
        go_ret
        exact ⟨rfl, hS1.below⟩
      | false =>
        have C2 := hide (hS1.same2 HWN.out (by have := HN.out; omega))
        rw [← HN.out] at C2
        go_wp2_with fail
        refine C2.out.mono ?_
        rintro e w2 ⟨rfl, hb2⟩
        go_wp2
        go_ret
        exact ⟨rfl, hS1.below.trans (hb2.mono hS1.below.size)⟩

set_option maxRecDepth 100000 in
set_option maxHeartbeats 1000000 in
theorem law_long (a : Option Addr) (n c : Nat) (w : World) (hn : ¬ n ≤ 4096) : Calls Yba.prog 5 #[.slice a n c] w fun e w' => e = .returned (.bool true) ∧ Below w.heap.size w w' := by
  have hd1 : decide ((4096 : Int) < (n : Int)) = true := decide_eq_true (by omega)
  go_enter Yba.func5, Yba.ntmps5
  go_wp2
  go_ret
  exact ⟨rfl, Below.refl _ _⟩
end Go.Proofs.Ybulkcsvu
