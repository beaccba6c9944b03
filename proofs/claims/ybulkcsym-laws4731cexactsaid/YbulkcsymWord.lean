/-
  OUR OWN. 'LawS4731CExact': counts packed into a word; the state from 'newCounts' on; 'raise' and the two 'precedes' at that state.
-/
import Derived.Test.YbulkcsymCParts
import Derived.Laws.BitsAllLaws
namespace Go.Proofs.Ybulkcsym
open Go.RowKit

theorem width_ok : ∀ L, L < 301 → max (Lib.bitLen L) 1 ≤ 9 ∧ L < 2 ^ max (Lib.bitLen L) 1 := by decide +kernel

def word (W : Nat) (v : Nat → Nat) : Nat → Nat
  | 0 => 0
  | s + 1 => word W v s + v s * 2 ^ (s * W)

theorem word_lt {W : Nat} {v : Nat → Nat} (hv : ∀ s, v s < 2 ^ W) : ∀ s, word W v s < 2 ^ (s * W)
  | 0 => by simp [word]
  | s + 1 => by
    have h1 := word_lt hv s
    have h2 : (v s + 1) * 2 ^ (s * W) ≤ 2 ^ W * 2 ^ (s * W) := Nat.mul_le_mul_right _ (hv s)
    rw [Nat.add_mul, Nat.one_mul] at h2
    rw [Nat.add_mul, Nat.one_mul, Nat.pow_add, Nat.mul_comm (2 ^ (s * W))]
    show word W v s + v s * 2 ^ (s * W) < _
    omega
theorem word_split {W : Nat} {v : Nat → Nat} (s : Nat) : ∀ d, ∃ r, word W v (s + d) = word W v s + 2 ^ (s * W) * r
  | 0 => ⟨0, by simp⟩
  | d + 1 => by
    obtain ⟨r, hr⟩ := word_split s d
    refine ⟨r + v (s + d) * 2 ^ (d * W), ?_⟩
    show word W v (s + d) + v (s + d) * 2 ^ ((s + d) * W) = _
    rw [hr, Nat.mul_add, Nat.add_mul s d W, Nat.pow_add, ← Nat.add_assoc, Nat.mul_left_comm]
theorem word_at {W : Nat} {v : Nat → Nat} (hv : ∀ s, v s < 2 ^ W) {s S : Nat} (hs : s < S) : word W v S / 2 ^ (s * W) % 2 ^ W = v s := by
  obtain ⟨d, rfl⟩ : ∃ d, S = (s + 1) + d := ⟨S - (s + 1), by omega⟩
  obtain ⟨r, hr⟩ := word_split (W := W) (v := v) (s + 1) d
  rw [hr]
  show (word W v s + v s * 2 ^ (s * W) + 2 ^ ((s + 1) * W) * r) / 2 ^ (s * W) % 2 ^ W = v s
  rw [Nat.add_mul s 1 W, Nat.one_mul, Nat.pow_add, Nat.mul_assoc, Nat.add_assoc, Nat.mul_comm (v s), ← Nat.mul_add, Nat.add_mul_div_left _ _ (Nat.two_pow_pos _), Nat.div_eq_of_lt (word_lt hv s), Nat.zero_add, Nat.add_mul_mod_self_left, Nat.mod_eq_of_lt (hv s)]

theorem masked (x sh W : Nat) (hx : x < 18446744073709551616) (hW : W < 10) : bits BinOp.and .u64 ((x : Int) / 2 ^ sh) (2 ^ W - 1) = ((x / 2 ^ sh % 2 ^ W : Nat) : Int) := by
  have e1 : (x : Int) / 2 ^ sh = ((x / 2 ^ sh : Nat) : Int) := by push_cast; rfl
  have hp : 0 < 2 ^ W := Nat.two_pow_pos W
  have hp2 : 2 ^ W ≤ 2 ^ 10 := Nat.pow_le_pow_right (by omega) (by omega)
  have e2 : (2 : Int) ^ W - 1 = ((2 ^ W - 1 : Nat) : Int) := by rw [Int.natCast_sub hp]; push_cast; rfl
  have h1 : x / 2 ^ sh ≤ x := Nat.div_le_self _ _
  rw [e1, e2, u64_and_nat _ _ (by omega) (by omega), Nat.and_two_pow_sub_one_eq_mod]

/-- The values of the table. -/
def vv (cd : List Int) (lc S L b s : Nat) : Nat := if b * S + s < lc then (cd.getD (b * S + s) 0).toNat % (L + 1) else 0
theorem vv_le (cd : List Int) (lc S L b s : Nat) : vv cd lc S L b s ≤ L := by
  unfold vv
  split
  · have := Nat.mod_lt ((cd.getD (b * S + s) 0).toNat) (show 0 < L + 1 by omega); omega
  · omega
/-- How many counts of row b are set, at row k, count s. -/
def pg (S k s b : Nat) : Nat := if b < k then S else if b = k then s else 0
theorem pg_next (S k b : Nat) : pg S (k + 1) 0 b = pg S k S b := by
  unfold pg
  by_cases h1 : b < k
  · rw [if_pos h1, if_pos (by omega)]
  · rw [if_neg h1]
    by_cases h2 : b = k
    · rw [if_pos h2, if_pos (by omega)]
    · rw [if_neg h2, if_neg (by omega)]; split <;> rfl
theorem pg_le {S k s b : Nat} (hs : s ≤ S) : pg S k s b ≤ S := by
  unfold pg
  split
  · omega
  · split <;> omega
structure Tab (W : Nat) (v : Nat → Nat → Nat) (n S k s : Nat) (Lm Lw : List Value) : Prop where
  lm : Lm.length = n * S
  lw : Lw.length = n
  m : ∀ b, b < n → ∀ s', s' < pg S k s b → Lm[b * S + s']? = some (.int .i64 (v b s' : Nat))
  wd : ∀ b, b < n → Lw[b]? = some (.int .u64 (word W (v b) (pg S k s b) : Nat))
theorem Tab.next {W : Nat} {v : Nat → Nat → Nat} {n S k : Nat} {Lm Lw : List Value} (h : Tab W v n S k S Lm Lw) : Tab W v n S (k + 1) 0 Lm Lw :=
  ⟨h.lm, h.lw, fun b hb s' hs' => h.m b hb s' (by rw [← pg_next]; exact hs'), fun b hb => by rw [pg_next]; exact h.wd b hb⟩
theorem Tab.step {W : Nat} {v : Nat → Nat → Nat} {n S k s : Nat} {Lm Lw : List Value} (h : Tab W v n S k s Lm Lw) (hk : k < n) (hs : s < S) :
    Tab W v n S k (s + 1) (Lm.set (k * S + s) (.int .i64 (v k s : Nat))) (Lw.set k (.int .u64 (word W (v k) (s + 1) : Nat))) := by
  have hkS : k * S + s < n * S := by have : (k + 1) * S ≤ n * S := Nat.mul_le_mul_right _ hk; rw [Nat.add_mul] at this; omega
  refine ⟨by simpa using h.lm, by simpa using h.lw, fun b hb s' hs' => ?_, fun b hb => ?_⟩
  · by_cases e : k * S + s = b * S + s'
    · have hs'S : s' < S := Nat.lt_of_lt_of_le hs' (pg_le (by omega))
      have hbk : b = k := by
        rcases Nat.lt_trichotomy b k with h1 | h1 | h1
        · have : (b + 1) * S ≤ k * S := Nat.mul_le_mul_right _ h1; rw [Nat.add_mul] at this; omega
        · exact h1
        · have : (k + 1) * S ≤ b * S := Nat.mul_le_mul_right _ h1; rw [Nat.add_mul] at this; omega
      subst hbk
      have : s = s' := by omega
      subst this
      rw [List.getElem?_set_self (by rw [h.lm]; exact hkS)]
    · rw [List.getElem?_set_ne e]
      refine h.m b hb s' ?_
      unfold pg at hs' ⊢
      by_cases h1 : b < k
      · rw [if_pos h1] at hs' ⊢; exact hs'
      · rw [if_neg h1] at hs' ⊢
        by_cases h2 : b = k
        · rw [if_pos h2] at hs' ⊢
          subst h2
          rcases Nat.lt_or_ge s' s with h3 | h3
          · exact h3
          · exact absurd (show b * S + s = b * S + s' by omega) e
        · rw [if_neg h2] at hs'; omega
  · by_cases e : k = b
    · subst e
      rw [List.getElem?_set_self (by rw [h.lw]; exact hk)]
      congr 4
      unfold pg
      rw [if_neg (by omega), if_pos rfl]
    · rw [List.getElem?_set_ne e, h.wd b hb]
      congr 4
      unfold pg
      rw [if_neg (Ne.symm e), if_neg (Ne.symm e)]
theorem Tab.cell {W : Nat} {v : Nat → Nat → Nat} {n S k s : Nat} {Lm Lw : List Value} (h : Tab W v n S k s Lm Lw) (hk : k < n) : Lw[k]? = some (.int .u64 (word W (v k) s : Nat)) := by
  rw [h.wd k hk]
  congr 4
  unfold pg
  rw [if_neg (by omega), if_pos rfl]
theorem Tab.start (W : Nat) (v : Nat → Nat → Nat) (n S : Nat) : Tab W v n S 0 0 (madeCells #[.int .i64 0] (n * S)).toList (madeCells #[.int .u64 0] n).toList := by
  refine ⟨by simp [size_madeCells], by simp [size_madeCells], fun b hb s' hs' => ?_, fun b hb => ?_⟩
  · have e : pg S 0 0 b = 0 := by unfold pg; rw [if_neg (by omega)]; split <;> rfl
    omega
  · have e : pg S 0 0 b = 0 := by unfold pg; rw [if_neg (by omega)]; split <;> rfl
    rw [e]
    simp [madeCells, hb, word, Nat.mod_one]

/-! ### the state from 'newCounts' on -/
def tabL (n S pb W : Nat) (tops : Int) (c : Value) : List Value := tab S W (64 / W : Nat) 1 (.slice (some ⟨pb + 1, 0, none⟩) n n) (2 ^ W - 1) tops ((64 / W) * W : Nat) (invW W) c
structure P2 (w wr : World) (tb sb n S pb W : Nat) (tops : Int) (Ls Li Lt Lm Lw : List Value) : Prop where
  pos : tb + sb = 2 * w.heap.size + 1 ∧ w.heap.size ≤ tb ∧ tb ≤ w.heap.size + 1
  com : Blk wr (w.heap.size + 2) 57 (comL tb sb n S)
  hso : Blk wr (w.heap.size + 3) 3 Ls
  hio : Blk wr (w.heap.size + 3 + 1) 3 Li
  htx : Blk wr tb 63 Lt
  hp : Blk wr pb 70 (tabL n S pb W tops (.pointer (some ⟨w.heap.size + 2, 0, none⟩)))
  hw : Blk wr (pb + 1) 67 Lw
  hm : Blk wr (pb + 2) 3 Lm
  below : Below w.heap.size w wr
  pbz : w.heap.size + 5 ≤ pb
  size : pb + 3 ≤ wr.heap.size
section
variable {w wr w1 : World} {tb sb n S pb W : Nat} {tops : Int} {Sv : Nat → Value} {xs : Nat → List Value} {Ls Li Lt Lm Lw : List Value}
theorem P2.later (h : P2 w wr tb sb n S pb W tops Ls Li Lt Lm Lw) (hb : Below wr.heap.size wr w1) : P2 w w1 tb sb n S pb W tops Ls Li Lt Lm Lw :=
  ⟨h.pos, h.com.below hb h.com.lt, h.hso.below hb h.hso.lt, h.hio.below hb h.hio.lt, h.htx.below hb h.htx.lt, h.hp.below hb h.hp.lt, h.hw.below hb h.hw.lt, h.hm.below hb h.hm.lt, h.below.trans (hb.mono h.below.size), h.pbz, Nat.le_trans h.size hb.size⟩
theorem P2.drewN (h : P2 w wr tb sb n S pb W tops Ls Li Lt Lm Lw) (m : Nat) : P2 w (wr.drewN m) tb sb n S pb W tops Ls Li Lt Lm Lw := h.later (below_drewN (Below.refl _ _) m)
theorem P2.setM (h : P2 w wr tb sb n S pb W tops Ls Li Lt Lm Lw) (i : Nat) (v : Value) : P2 w (wr.setCell ⟨pb + 2, i, none⟩ v) tb sb n S pb W tops Ls Li Lt (Lm.set i v) Lw := by
  have hp := h.pos
  have hz := h.pbz
  exact ⟨h.pos, h.com.other (by show w.heap.size + 2 ≠ pb + 2; omega) v, h.hso.other (by show w.heap.size + 3 ≠ pb + 2; omega) v, h.hio.other (by show w.heap.size + 3 + 1 ≠ pb + 2; omega) v, h.htx.other (by show tb ≠ pb + 2; omega) v, h.hp.other (by show pb ≠ pb + 2; omega) v, h.hw.other (by show pb + 1 ≠ pb + 2; omega) v, h.hm.set i v, h.below.setCell (by show w.heap.size ≤ pb + 2; omega) v, h.pbz, by simpa [World.setCell] using h.size⟩
theorem P2.setW (h : P2 w wr tb sb n S pb W tops Ls Li Lt Lm Lw) (i : Nat) (v : Value) : P2 w (wr.setCell ⟨pb + 1, i, none⟩ v) tb sb n S pb W tops Ls Li Lt Lm (Lw.set i v) := by
  have hp := h.pos
  have hz := h.pbz
  exact ⟨h.pos, h.com.other (by show w.heap.size + 2 ≠ pb + 1; omega) v, h.hso.other (by show w.heap.size + 3 ≠ pb + 1; omega) v, h.hio.other (by show w.heap.size + 3 + 1 ≠ pb + 1; omega) v, h.htx.other (by show tb ≠ pb + 1; omega) v, h.hp.other (by show pb ≠ pb + 1; omega) v, h.hw.set i v, h.hm.other (by show pb + 2 ≠ pb + 1; omega) v, h.below.setCell (by show w.heap.size ≤ pb + 1; omega) v, h.pbz, by simpa [World.setCell] using h.size⟩

/-- What 'newCounts' leaves, the store of 'p.c' and the make of the model's slice behind it. -/
theorem P1.p2 (h : P1 w wr tb sb n S Sv xs Ls Li Lt) (hb : Below wr.heap.size wr w1) (hz : w1.heap.size = wr.heap.size + 2) (hw : Blk w1 (wr.heap.size + 1) 67 Lw)
    (hp : Blk w1 wr.heap.size 70 (tabL n S wr.heap.size W tops (.pointer none))) (A : Array Value) :
    P2 w ((w1.setCell ⟨wr.heap.size, 9, none⟩ (.pointer (some ⟨w.heap.size + 2, 0, none⟩))).alloc (.cells A 3)) tb sb n S wr.heap.size W tops Ls Li Lt A.toList Lw := by
  have hpos := h.pos
  have hs := h.size
  refine ⟨h.pos, ((h.com.below hb h.com.lt).other (by show w.heap.size + 2 ≠ wr.heap.size; omega) _).alloc _, ((h.hso.below hb h.hso.lt).other (by show w.heap.size + 3 ≠ wr.heap.size; omega) _).alloc _, ((h.hio.below hb h.hio.lt).other (by show w.heap.size + 3 + 1 ≠ wr.heap.size; omega) _).alloc _, ((h.htx.below hb h.htx.lt).other (by show tb ≠ wr.heap.size; omega) _).alloc _, (hp.set 9 _).alloc _, (hw.other (by show wr.heap.size + 1 ≠ wr.heap.size; omega) _).alloc _, ?_, ?_, hs, ?_⟩
  · have hb := Blk.made (w1.setCell ⟨wr.heap.size, 9, none⟩ (.pointer (some ⟨w.heap.size + 2, 0, none⟩))) A 3
    rw [show (w1.setCell ⟨wr.heap.size, 9, none⟩ (.pointer (some ⟨w.heap.size + 2, 0, none⟩))).heap.size = wr.heap.size + 2 from by simp [World.setCell, hz]] at hb
    exact hb
  · refine Below.alloc (Below.setCell (h.below.trans (hb.mono h.below.size)) (by show w.heap.size ≤ wr.heap.size; omega) _) (by simp [World.setCell]; omega) _
  · simp [World.setCell]; omega

theorem wrap_u64_in (x : Nat) (h : x < 18446744073709551616) : IntKind.u64.wrap (x : Int) = x := by
  have := IntKind.wrap_u64 (x : Int)
  omega
theorem P2.raise (h : P2 w wr tb sb n S pb W tops Ls Li Lt Lm Lw) {Lm' : List Value} {v : Nat → Nat → Nat} {k s : Nat} (hT : Tab W v n S k s Lm' Lw) (hW : W < 10) (hS : S ≤ 4) (hk : k < n) (hs : s < S) (hn : n ≤ 300) (hv : ∀ s, v k s < 2 ^ W) (hv3 : v k s ≤ 300) :
    Calls Yba.prog 14 #[.pointer (some ⟨pb, 0, none⟩), .int .i64 k, .int .i64 s, .int .i64 (v k s : Nat)] wr fun e w' => e = .returned (.tuple #[]) ∧ P2 w w' tb sb n S pb W tops Ls Li Lt Lm (Lw.set k (.int .u64 (word W (v k) (s + 1) : Nat))) := by
  have hsW : s * W ≤ 3 * 9 := Nat.mul_le_mul (by omega) (by omega)
  have hl := word_lt hv s
  have hl2 := word_lt hv (s + 1)
  have hsW2 : (s + 1) * W ≤ 4 * 9 := Nat.mul_le_mul (by omega) (by omega)
  have hp1 : 2 ^ (s * W) ≤ 2 ^ 27 := Nat.pow_le_pow_right (by omega) hsW
  have hp2 : 2 ^ ((s + 1) * W) ≤ 2 ^ 36 := Nat.pow_le_pow_right (by omega) hsW2
  have hc := hT.cell hk
  have hand : bits BinOp.and .u64 (((word W (v k) s : Nat) : Int) / 2 ^ (s * W)) (2 ^ W - 1) = 0 := by
    rw [masked _ _ _ (by omega) hW, Nat.div_eq_of_lt hl]
    simp
  refine (raise_walk W s k (v k s) n pb (pb + 1) (s * W) hW (by omega) hk hn wr _ _ _ (hide rfl) (by omega) (h.hp.cell rfl) (h.hp.cell rfl) (h.hp.cell rfl) (h.hp.cell rfl) (h.hp.cell rfl) (h.hp.cell rfl) (h.hw.cell hc) (h.hw.free k) hand hv3).mono ?_
  rintro e w' ⟨rfl, m, ⟨rfl, hv0⟩ | rfl⟩
  · refine ⟨rfl, ?_⟩
    have e : Lw.set k (.int .u64 (word W (v k) (s + 1) : Nat)) = Lw := by
      rw [show word W (v k) (s + 1) = word W (v k) s from by show word W (v k) s + v k s * _ = _; rw [hv0]; omega]
      apply List.ext_getElem?
      intro i
      by_cases ei : k = i
      · subst ei; rw [List.getElem?_set_self (by rw [hT.lw]; exact hk), hc]
      · rw [List.getElem?_set_ne ei]
    rw [e]
    exact h.drewN m
  · refine ⟨rfl, ?_⟩
    have e : IntKind.u64.wrap (((word W (v k) s : Nat) : Int) + IntKind.u64.wrap (((v k s : Nat) : Int) * 2 ^ (s * W))) = (word W (v k) (s + 1) : Nat) := by
      have e1 : ((v k s : Nat) : Int) * 2 ^ (s * W) = ((v k s * 2 ^ (s * W) : Nat) : Int) := by push_cast; rfl
      have hle : v k s * 2 ^ (s * W) ≤ word W (v k) (s + 1) := Nat.le_add_left _ _
      rw [e1, wrap_u64_in _ (by omega), ← Int.natCast_add]
      exact wrap_u64_in (word W (v k) (s + 1)) (by omega)
    rw [e]
    exact (h.drewN m).setW k _

/-- 'ordering.precedes' and the law's own, at a state in which the table is whole. -/
def prc (sv : Nat → Nat) (v : Nat → Nat → Nat) (a b : Nat) : Bool := decide (a ≠ b) && decide (((cs sv (sv a) a : Nat) : Int) < ((v b (sv a) : Nat) : Int))
theorem P2.prec (h : P2 w wr tb sb n S pb W tops Ls Li Lt Lm Lw) {sv : Nat → Nat} {v : Nat → Nat → Nat} (hG : Good sv n S n xs Ls Li Lt) (hT : Tab W v n S n 0 Lm Lw) (hW : W < 10) (hS : S ≤ 4) (hsv : ∀ a, sv a < S) (hn : n ≤ 300) (hv : ∀ b s, v b s < 2 ^ W) (hv3 : ∀ b s, v b s ≤ 300) :
    PrecOk wr (w.heap.size + 2) pb n (prc sv v) := by
  intro a b ha hb wq hbq
  refine oprecedes (w.heap.size + 2) pb a b wq _ fun wp hbp => ?_
  have h' := (h.later hbq).later hbp
  have hsW : sv a * W ≤ 3 * 9 := Nat.mul_le_mul (by have := hsv a; omega) (by omega)
  have hl := word_lt (hv b) S
  have hsW2 : S * W ≤ 4 * 9 := Nat.mul_le_mul hS (by omega)
  have hp2 : 2 ^ (S * W) ≤ 2 ^ 36 := Nat.pow_le_pow_right (by omega) hsW2
  have hand : bits BinOp.and .u64 (((word W (v b) S : Nat) : Int) / 2 ^ (sv a * W)) (2 ^ W - 1) = (v b (sv a) : Nat) := by
    rw [masked _ _ _ (by omega) hW, word_at (hv b) (hsv a)]
  have hc : Lw[b]? = some (.int .u64 (word W (v b) S : Nat)) := by
    rw [hT.wd b hb]
    congr 4
    unfold pg
    rw [if_pos hb]
  exact cprecedes W (sv a) a b (cs sv (sv a) a) n pb (pb + 1) (w.heap.size + 2) tb (sv a * W) hW (by have := hsv a; omega) ha hb hn wp _ _ _ _ (hide rfl) (by omega) (h'.hp.cell rfl) (h'.hp.cell rfl) (h'.hp.cell rfl) (h'.hp.cell rfl) (h'.hp.cell rfl) (h'.hp.cell rfl) (h'.hw.cell hc) hand (by omega) (by have := hv3 b (sv a); omega) (h'.com.cell rfl) (h'.htx.cell (hG.t1 a ha)) (h'.htx.cell (hG.t2 a ha))
theorem P2.zprec (h : P2 w wr tb sb n S pb W tops Ls Li Lt Lm Lw) {sv : Nat → Nat} {v : Nat → Nat → Nat} (hG : Good sv n S n xs Ls Li Lt) (hT : Tab W v n S n 0 Lm Lw) (hS : S ≤ 4) (hsv : ∀ a, sv a < S) (hn : n ≤ 300) {a b : Nat} (ha : a < n) (hb : b < n) :
    Calls Yba.prog 16 #[.slice (some ⟨w.heap.size + 3, 0, none⟩) n n, .slice (some ⟨w.heap.size + 3 + 1, 0, none⟩) n n, .slice (some ⟨pb + 2, 0, none⟩) (n * S) (n * S), .int .i64 S, .int .i64 a, .int .i64 b] wr fun e w' => e = .returned (.bool (prc sv v a b)) ∧ ∃ m, w' = wr.drewN m :=
  Ybulkcsym.zprec (sv a) a b (cs sv (sv a) a) n S _ _ _ ha hb hn hS (hsv a) wr _ (h.hso.cell (hG.so a ha)) (h.hio.cell (hG.io a ha)) (h.hm.cell (hT.m b hb (sv a) (by unfold pg; rw [if_pos hb]; exact hsv a)))
end
end Go.Proofs.Ybulkcsym
