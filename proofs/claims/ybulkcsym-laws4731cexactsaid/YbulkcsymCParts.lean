/-
  OUR OWN. 'LawS4731CExact': the state at the start of its loops. No walk.
-/
import Derived.Test.YbulkcsymFam
import Derived.BigRegion
import Derived.BigQuiet
import Derived.Deep.RegionLaw
import Derived.Deep.DeepCutAuto
import Derived.Deep.LoopGhost
import Derived.Deep.OwnRows
namespace Go.Proofs.Ybulkcsym
open Go.RowKit

theorem size5 : (sizeOf 5).run Yba.prog = fun w => .ok 1 w := by kernel_rfl
theorem info3' : (Yba.prog.info? 3).map (fun i => (i.zero, i.size, i.bytes)) = some (some (.int .i64 0), 1, 8) := by kernel_rfl
theorem info22 : (Yba.prog.info? 22).map (fun i => (i.zero, i.size, i.bytes)) = some (some (.slice none 0 0), 1, 24) := by kernel_rfl
def zTxn : Array Value := #[.pointer none, .int .i64 0, .int .i64 0, .slice none 0 0, .slice none 0 0, .slice none 0 0, .slice none 0 0, .pointer none]
theorem info63 : (Yba.prog.info? 63).map (fun i => (i.zero, i.size, i.bytes)) = some (some (.agg zTxn), 8, 128) := by kernel_rfl
theorem make63 (n : Nat) (hn : n ≤ 300) (w : World) : (Instr.makeSlice 52 (.int .i64 (n : Int)) (.int .i64 (n : Int))).run Yba.prog w = .ok (.slice (some ⟨w.heap.size, 0, none⟩) n n) (w.alloc (.cells (madeCells zTxn (n * 8)) 63)) := by
  obtain ⟨i, hi, hz, hs, hb⟩ := info_parts info63
  have h := run_make (P := Yba.prog) w 52 63 i _ Yba.underlying52 hi hz .i64 .i64 n n (by omega) (by omega) (by rw [hb]; omega) (by omega)
  rw [h, hs]
  rfl

def Start0 (w wc : World) (n S tb sb : Nat) : Prop := tb + sb = 2 * w.heap.size + 1 ∧ w.heap.size ≤ tb ∧ tb ≤ w.heap.size + 1 ∧ Blk wc tb 63 (madeCells zTxn (n * 8)).toList ∧ Blk wc sb 22 (madeCells #[.slice none 0 0] S).toList ∧ Blk wc (w.heap.size + 2) 57 (comL tb sb n S) ∧ Below w.heap.size w wc ∧ wc.heap.size = w.heap.size + 3
theorem start_a (w : World) (n S : Nat) : Start0 w (((w.alloc (.cells (madeCells zTxn (n * 8)) 63)).alloc (.cells (madeCells #[.slice none 0 0] S) 22)).alloc (.cells (comL w.heap.size (w.heap.size + 1) n S).toArray 57)) n S w.heap.size (w.heap.size + 1) := by
  refine ⟨by omega, by omega, by omega, ((Blk.made w _ 63).alloc _).alloc _, ?_, ?_, ?_, by simp⟩
  · have h := (Blk.made (w.alloc (.cells (madeCells zTxn (n * 8)) 63)) (madeCells #[.slice none 0 0] S) 22).alloc (.cells (comL w.heap.size (w.heap.size + 1) n S).toArray 57)
    simpa using h
  · have h := Blk.made ((w.alloc (.cells (madeCells zTxn (n * 8)) 63)).alloc (.cells (madeCells #[.slice none 0 0] S) 22)) (comL w.heap.size (w.heap.size + 1) n S).toArray 57
    simpa using h
  · exact ((((Below.refl _ _).alloc (Nat.le_refl _) _).alloc (by simp) _).alloc (by simp; omega) _)
theorem start_b (w : World) (n S : Nat) : Start0 w (((w.alloc (.cells (madeCells #[.slice none 0 0] S) 22)).alloc (.cells (madeCells zTxn (n * 8)) 63)).alloc (.cells (comL (w.heap.size + 1) w.heap.size n S).toArray 57)) n S (w.heap.size + 1) w.heap.size := by
  refine ⟨by omega, by omega, by omega, ?_, ((Blk.made w _ 22).alloc _).alloc _, ?_, ?_, by simp⟩
  · have h := (Blk.made (w.alloc (.cells (madeCells #[.slice none 0 0] S) 22)) (madeCells zTxn (n * 8)) 63).alloc (.cells (comL (w.heap.size + 1) w.heap.size n S).toArray 57)
    simpa using h
  · have h := Blk.made ((w.alloc (.cells (madeCells #[.slice none 0 0] S) 22)).alloc (.cells (madeCells zTxn (n * 8)) 63)) (comL (w.heap.size + 1) w.heap.size n S).toArray 57
    simpa using h
  · exact ((((Below.refl _ _).alloc (Nat.le_refl _) _).alloc (by simp) _).alloc (by simp; omega) _)
theorem Start0.drew {w wc : World} {n S tb sb : Nat} (h : Start0 w wc n S tb sb) : Start0 w wc.drew n S tb sb := ⟨h.1, h.2.1, h.2.2.1, h.2.2.2.1, h.2.2.2.2.1, h.2.2.2.2.2.1, h.2.2.2.2.2.2.1.drew, h.2.2.2.2.2.2.2⟩
theorem Start0.p1 {w wc : World} {n S tb sb : Nat} (h : Start0 w wc n S tb sb) :
    P1 w ((wc.alloc (.cells (madeCells #[.int .i64 0] n) 3)).alloc (.cells (madeCells #[.int .i64 0] n) 3)) tb sb n S (fun _ => .slice none 0 0) (fun _ => []) (madeCells #[.int .i64 0] n).toList (madeCells #[.int .i64 0] n).toList (madeCells zTxn (n * 8)).toList := by
  obtain ⟨h1, h2, h3, h4, h5, h6, h7, h8⟩ := h
  have e3 : w.heap.size + 3 = wc.heap.size := h8.symm
  have e4 : w.heap.size + 3 + 1 = (wc.alloc (.cells (madeCells #[.int .i64 0] n) 3)).heap.size := by simp; omega
  refine ⟨⟨h1, h2, h3⟩, ⟨?_, by omega, fun s _ => World.ownsRow_nil _ _ _ _, fun _ _ _ _ _ g hg => by simp [Value.ownBlock] at hg⟩, (h6.alloc _).alloc _, ?_, ?_, (h4.alloc _).alloc _, (h7.alloc (by omega) _).alloc (by simp; omega) _, by simp; omega⟩
  · refine Eq.trans ((h5.alloc _).alloc _) ?_
    congr 3
    apply List.ext_getElem?
    intro i
    simp [madeCells, Nat.mod_one]
  · rw [e3]; exact (Blk.made wc _ 3).alloc _
  · rw [e4]; exact Blk.made _ _ 3
theorem good_start (sv : Nat → Nat) (n S : Nat) : Good sv n S 0 (fun _ => []) (madeCells #[.int .i64 0] n).toList (madeCells #[.int .i64 0] n).toList (madeCells zTxn (n * 8)).toList :=
  ⟨by simp [size_madeCells], by simp [size_madeCells], by simp [size_madeCells], fun _ h => absurd h (by omega), fun _ h => absurd h (by omega), fun _ h => absurd h (by omega), fun _ h => absurd h (by omega), fun s _ => by simp [cs]⟩


/-- What the append to a session's list wants to know, and what it leaves for the store behind it. -/
theorem pre16 {w wr : World} {tb sb n S s c k : Nat} {Sv : Nat → Value} {xs : Nat → List Value} {Ls Li Lt : List Value} (h : P1 w wr tb sb n S Sv xs Ls Li Lt) (hs : s < S) (hc : c = (xs s).length) :
    Hid ((wr.alloc (.cells #[.int .i64 (k : Int)] 3)).drew.ownsRow (w.heap.size + 5) 3 1 (Sv s) c (xs s)) ∧
    Hid (∀ j u, [Value.int .i64 (k : Int)][j]? = some u → (wr.alloc (.cells #[.int .i64 (k : Int)] 3)).drew.cell? ((⟨wr.heap.size, 0, none⟩ : Addr).add j) = some u) ∧
    Hid (∀ u ∈ [Value.int .i64 (k : Int)], u.oneCell' = true) ∧
    Hid (∀ w1 : World, (wr.alloc (.cells #[.int .i64 (k : Int)] 3)).drew.grownBy w1 (Sv s).ownBlock → w1.cell? ⟨sb, s, none⟩ = some (Sv s) ∧ w1.frozen? ⟨sb, s, none⟩ = false ∧ w1.cell? ⟨w.heap.size + 2, 1, none⟩ = some (.slice (some ⟨sb, 0, none⟩) S S)) := by
  subst hc
  have hf := (h.fam.alloc (.cells #[.int .i64 (k : Int)] 3)).drew
  have hcm : Blk (wr.alloc (.cells #[.int .i64 (k : Int)] 3)).drew (w.heap.size + 2) 57 (comL tb sb n S) := h.com.alloc (.cells #[.int .i64 (k : Int)] 3)
  refine ⟨hf.rows s hs, World.news_of_block (Blk.made wr _ 3), ?_, ?_⟩
  · intro u hu; simp at hu; subst hu; rfl
  · intro w1 hg
    have hr := hf.rows s hs
    have h1 := hf.hdr.grown hg (fun e => ownsRow_ne_blk hr hf.hdr (by decide) e.symm)
    have h2 := hcm.grown hg (fun e => ownsRow_ne_blk hr hcm (by decide) e.symm)
    exact ⟨h1.cell (by simp [hs]), h1.free _, h2.cell rfl⟩
theorem after16 {w wr w1 : World} {tb sb n S s c k g cap H : Nat} {O : Obj} {Sv : Nat → Value} {xs : Nat → List Value} {Ls Li Lt : List Value} (h : P1 w wr tb sb n S Sv xs Ls Li Lt) (hs : s < S) (hc : c = (xs s).length)
    (hown : w1.ownsRow (w.heap.size + 5) 3 1 (.slice (some ⟨g, 0, none⟩) (c + 1) cap) (c + 1) (xs s ++ [.int .i64 (k : Int)])) (hg : (wr.alloc O).drew.grownBy w1 (Sv s).ownBlock) (hat : (Sv s).ownBlock = some g ∨ g = H) (hH : (wr.alloc O).drew.heap.size ≤ H) :
    ∃ Sv', P1 w (w1.setCell ⟨sb, s, none⟩ (.slice (some ⟨g, 0, none⟩) (c + 1) cap)) tb sb n S Sv' (fun j => if j = s then xs s ++ [.int .i64 (k : Int)] else xs j) Ls Li Lt := by
  subst hc
  exact ⟨_, (h.alloc O).drew.push hs hown hg hat hH⟩
theorem good_step {sv : Nat → Nat} {n S k s c : Nat} {xs : Nat → List Value} {Ls Li Lt : List Value} (h : Good sv n S k xs Ls Li Lt) (hk : k < n) (hs : s < S) (hsv : s = sv k) (hc : c = (xs s).length) (u : Value) :
    Good sv n S (k + 1) (fun j => if j = s then xs s ++ [u] else xs j) (Ls.set k (.int .i64 (s : Nat))) (Li.set k (.int .i64 (c : Nat))) ((Lt.set (k * 8 + 1) (.int .i64 (s : Nat))).set (k * 8 + 2) (.int .i64 (c : Nat))) := by
  subst hsv
  rw [h.len _ hs] at hc
  subst hc
  exact h.step hk hs u
end Go.Proofs.Ybulkcsym
