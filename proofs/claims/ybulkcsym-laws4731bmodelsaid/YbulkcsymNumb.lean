/-
  OUR OWN. 'Numbering' (package history): what it holds; 'zzs4731bindex' (8), 'Find' (17), 'zzs4731bcheck' (7).
-/
import Derived.Test.YbulkcsymBefore
import Derived.Test.YbulkcsymMapw
import Derived.Deep.AppendLies
import Derived.Laws.CopyOwn
import Derived.Deep.OwnRows
namespace Go.Proofs.Ybulkcsym.Numb
open Go.RowKit Go.Maps Go.Proofs.Ybulkcsym

/-! ### plain -/
/-- The place of v in d, if it is there. -/
def idx : List Int → Int → Option Nat
  | [], _ => none
  | x :: r, v => if x = v then some 0 else (idx r v).map (· + 1)

theorem idx_some : ∀ (d : List Int) (v : Int) (k : Nat), k < d.length → d.getD k 0 = v → (∀ j, j < k → d.getD j 0 ≠ v) → idx d v = some k
  | [], _, _, h, _, _ => absurd h (by simp)
  | x :: r, v, 0, _, h1, _ => by
    simp at h1
    simp [idx, h1]
  | x :: r, v, k + 1, h0, h1, h2 => by
    have hx : x ≠ v := by have := h2 0 (by omega); simpa using this
    have := idx_some r v k (by simpa using h0) (by simpa using h1) (fun j hj => by have := h2 (j + 1) (by omega); simpa using this)
    simp [idx, hx, this]
theorem idx_none : ∀ (d : List Int) (v : Int), (∀ j, j < d.length → d.getD j 0 ≠ v) → idx d v = none
  | [], _, _ => rfl
  | x :: r, v, h => by
    have hx : x ≠ v := by have := h 0 (by simp); simpa using this
    have := idx_none r v (fun j hj => by have := h (j + 1) (by simpa using hj); simpa using this)
    simp [idx, hx, this]
theorem idx_snoc : ∀ (d : List Int) (v u : Int), idx (d ++ [v]) u = match idx d u with | some i => some i | none => if v = u then some d.length else none
  | [], v, u => by simp [idx]
  | x :: r, v, u => by
    simp only [List.cons_append, idx]
    by_cases e : x = u
    · simp [e]
    · rw [if_neg e, if_neg e, idx_snoc r v u]
      cases idx r u with
      | none => by_cases e2 : v = u <;> simp [e2]
      | some i => simp
theorem idx_lt : ∀ (d : List Int) (v : Int) (i : Nat), idx d v = some i → i < d.length
  | [], _, _, h => by simp [idx] at h
  | x :: r, v, i, h => by
    unfold idx at h
    by_cases e : x = v
    · rw [if_pos e] at h; simp at h; subst h; simp
    · rw [if_neg e] at h
      cases h' : idx r v with
      | none => rw [h'] at h; simp at h
      | some j => rw [h'] at h; simp at h; have := idx_lt r v j h'; subst h; simpa using this

def idxI (d : List Int) (v : Int) : Int := match idx d v with | some i => i | none => -1
def small (x : Int) : Prop := 0 ≤ x ∧ x < 65536

theorem size2 : (sizeOf 2).run Yba.prog = fun w => .ok 1 w := by kernel_rfl
theorem size3 : (sizeOf 3).run Yba.prog = fun w => .ok 1 w := by kernel_rfl
theorem law2 : Keyed Yba.prog 2 := int_keyed Yba.underlying2
theorem zero3 (w : World) : (zeroValue 3).run Yba.prog w = .ok (.int .i64 0) w := by kernel_rfl
theorem int_inj (x y : Int) (h : Lit.int .i64 x = Lit.int .i64 y) : x = y := by cases h; rfl

/-! ### what a slice of the call's own reads as -/
/-- The slice value v reads as the numbers d, in the world w. -/
def Reads (w : World) (v : Value) (d : List Int) : Prop := ∃ (a : Option Addr) (c b : Nat), v = .slice a d.length c ∧ (0 < d.length → a = some ⟨b, 0, none⟩) ∧ ∀ i, i < d.length → w.cell? ⟨b, i, none⟩ = some (.int .i64 (d.getD i 0))

theorem Reads.of_row {w : World} {base : Nat} {v : Value} {d : List Int} {e : TypeId} (h : w.ownsRow base e 1 v d.length (d.map (Value.int .i64))) : Reads w v d := by
  rcases h.2 with ⟨rfl, h0⟩ | ⟨g, cap, cur, rfl, _⟩
  · exact ⟨none, 0, 0, by rw [h0], fun h => absurd h (by omega), fun i hi => absurd hi (by omega)⟩
  · refine ⟨_, cap, g, rfl, fun _ => rfl, fun i hi => ?_⟩
    rw [h.cellAt i (by omega), List.getElem?_map, List.getD, List.getElem?_eq_getElem hi]
    rfl

theorem index_any (v : Value) (d : List Int) (x : Int) (w : World) (hl : d.length ≤ 1024) (hr : Reads w v d) :
    Calls Yba.prog 8 #[v, .int .i64 x] w fun e w' => e = .returned (.int .i64 (idxI d x)) ∧ w' = w := by
  obtain ⟨a, c, b, rfl, ha, hc⟩ := hr
  obtain ⟨n, hn⟩ : ∃ n, n = d.length := ⟨_, rfl⟩
  rw [← hn] at ha hc hl ⊢
  have HN := hide hn
  clear hn
  go_enter Yba.func8, Yba.ntmps8
  go_wp2
  go_loop [5] (fun i => ∃ k : Nat, k ≤ n ∧ i = .int .i64 k ∧ ∀ j, j < k → d.getD j 0 ≠ x) (fun i => n - (intOf i).toNat)
  case atStart => exact ⟨0, Nat.zero_le _, rfl, fun j hj => absurd hj (by omega)⟩
  case round =>
    obtain ⟨k, hk, rfl, hno⟩ := hrel
    have HO := hide hno
    clear hno
    by_cases hlt : k < n
    · obtain ⟨y, hy⟩ : ∃ y, y = d.getD k 0 := ⟨_, rfl⟩
      have hcx : w.cell? ⟨b, k, none⟩ = some (.int .i64 y) := by rw [hy]; exact hc k hlt
      have hix := index_slice Yba.underlying39 size2 ha c hlt
      rw [Nat.zero_add] at hix
      have HY := hide hy
      clear hy hc
      cases hb : (y == x) with
      | true =>
        go_wp2
        go_ret
        have e1 : y = x := by simpa using hb
        refine ⟨ret_int ?_, rfl⟩
        unfold idxI
        rw [idx_some d x k (by have := HN.out; omega) (by rw [← HY.out, e1]) HO.out]
      | false =>
        go_wp2
        go_round
        case rel =>
          refine ⟨k + 1, by omega, by go_num, fun j hj => ?_⟩
          have e1 : y ≠ x := by simpa using hb
          by_cases e : j = k
          · subst e; rw [← HY.out]; exact e1
          · exact HO.out j (by omega)
        case measure => simp [intOf]; omega
    · go_wp2
      go_ret
      refine ⟨ret_int ?_, rfl⟩
      unfold idxI
      rw [idx_none d x (fun j hj => HO.out j (by have := HN.out; omega))]

/-! ### the numbering -/
/-- What 'small' holds at v: its number plus one, or 0. -/
def smallAt (d : List Int) (v : Nat) : Int := match idx d v with | some i => (i : Int) + 1 | none => 0
/-- What 'large' holds. -/
def largeAt (d : List Int) (x : Int) : Option Value := if 0 ≤ x ∧ x < 65536 then none else (idx d x).map fun i => .int .i64 (i : Nat)

/-- Block N is a Numbering whose 'small' and 'large' tell the places in d and whose 'values' are dl (between two calls: d = dl); what it holds lies from block 'base' on. -/
structure Num (w : World) (N base : Nat) (d dl : List Int) (sv mv vv : Value) (n : Nat) : Prop where
  self : Blk w N 43 [sv, mv, vv]
  sml : (sv = .slice none 0 0 ∧ n = 0) ∨ ∃ g, sv = .slice (some ⟨g, 0, none⟩) n n ∧ base ≤ g ∧ Blk w g 3 ((List.range n).map fun v => .int .i64 (smallAt d v))
  top : n ≤ 65536
  all : ∀ v, v < 65536 → n ≤ v → idx d (v : Int) = none
  lrg : (mv = .map none ∧ ∀ x, largeAt d x = none) ∨ ∃ B sz, mv = .map (some B) ∧ base ≤ B ∧ sz ≤ d.length ∧ HasMap w Yba.prog 2 (Lit.int .i64) B sz (largeAt d)
  vals : w.ownsRow base 2 1 vv dl.length (dl.map (Value.int .i64))

theorem smallAt_le (d : List Int) (v : Nat) : 0 ≤ smallAt d v ∧ smallAt d v ≤ d.length := by
  unfold smallAt
  cases h : idx d v with
  | none => simp
  | some i => have := idx_lt d v i h; simp; omega

/-- What 'Find' answers. -/
def findN (d : List Int) (x : Int) : Int := match idx d x with | some i => i | none => 0
def findB (d : List Int) (x : Int) : Bool := (idx d x).isSome

theorem ret_find {a c : Int} {b e : Bool} (h1 : a = c) (h2 : b = e) : Ending.returned (.tuple #[.int .i64 a, .bool b]) = .returned (.tuple #[.int .i64 c, .bool e]) := by rw [h1, h2]

set_option maxRecDepth 100000 in
set_option maxHeartbeats 400000 in
theorem find_small (w : World) (N base : Nat) (d : List Int) (sv mv vv : Value) (n v : Nat) (h : Num w N base d d sv mv vv n) (hv : v < 65536) (hd : d.length ≤ 1024) :
    Calls Yba.prog 17 #[.pointer (some ⟨N, 0, none⟩), .int .i64 (v : Int)] w fun e w' => e = .returned (.tuple #[.int .i64 (findN d v), .bool (findB d v)]) ∧ w' = w := by
  have c0 : w.cell? ⟨N, 0, none⟩ = some sv := h.self.cell rfl
  have hn := h.top
  have hlt : (v : Int) < 65536 := by omega
  by_cases hvn : v < n
  · rcases h.sml with ⟨_, rfl⟩ | ⟨g, rfl, _, hB⟩
    · exact absurd hvn (by omega)
    have hcx : w.cell? ⟨g, v, none⟩ = some (.int .i64 (smallAt d v)) := hB.cell (by simp [hvn])
    have hle : decide (n ≤ v) = false := decide_eq_false (by omega)
    have hvn' : (v : Int) < (n : Int) := by omega
    have hsl := smallAt_le d v
    cases hi : idx d (v : Int) with
    | none =>
      have hs : smallAt d v = 0 := by simp [smallAt, hi]
      have HI := hide hi
      rw [hs] at hcx
      clear hi hs hsl
      go_enter Yba.func17, Yba.ntmps17
      go_wp2
      go_ret2
      exact ⟨ret_find (by simp [findN, HI.out]) (by simp [findB, HI.out]), rfl⟩
    | some i =>
      have hs : smallAt d v = (i : Int) + 1 := by simp [smallAt, hi]
      have hil := idx_lt d _ i hi
      have HI := hide hi
      obtain ⟨y, hy⟩ : ∃ y, y = (i : Int) + 1 := ⟨_, rfl⟩
      rw [hs, ← hy] at hcx
      have hy1 : 1 ≤ y := by omega
      have hy2 : y ≤ 1024 := by omega
      have hz : (y == 0) = false := by rw [beq_eq_false_iff_ne]; omega
      have HY := hide hy
      clear hi hs hsl hy h hB hil hd
      go_enter Yba.func17, Yba.ntmps17
      go_wp2
      go_ret2
      exact ⟨ret_find (by simp [findN, HI.out, HY.out]) (by simp [findB, HI.out]), rfl⟩
  · have hge : decide (n ≤ v) = true := decide_eq_true (by omega)
    have HI := hide (h.all v hv (by omega))
    obtain ⟨a, hsv⟩ : ∃ a, sv = .slice a n n := by
      rcases h.sml with ⟨rfl, rfl⟩ | ⟨g, rfl, _, hB⟩
      · exact ⟨none, rfl⟩
      · exact ⟨_, rfl⟩
    rw [hsv] at c0
    clear hsv
    go_enter Yba.func17, Yba.ntmps17
    go_wp2
    go_ret2
    exact ⟨ret_find (by simp [findN, HI.out]) (by simp [findB, HI.out]), rfl⟩

set_option maxRecDepth 100000 in
set_option maxHeartbeats 400000 in
theorem find_large (w : World) (N base : Nat) (d : List Int) (sv mv vv : Value) (n : Nat) (x : Int) (h : Num w N base d d sv mv vv n) (hx : ¬ (0 ≤ x ∧ x < 65536)) (hw : (Lit.int .i64 x).wf = true) :
    Calls Yba.prog 17 #[.pointer (some ⟨N, 0, none⟩), .int .i64 x] w fun e w' => e = .returned (.tuple #[.int .i64 (findN d x), .bool (findB d x)]) ∧ w' = w := by
  have c1 : w.cell? ⟨N, 1, none⟩ = some mv := h.self.cell rfl
  have hkey := keyOf_int_mk (P := Yba.prog) Yba.underlying2 hw
  have hrun : (Instr.lookup 41 mv (.int .i64 x) true).run Yba.prog w = .ok (.tuple #[.int .i64 (findN d x), .bool (findB d x)]) w := by
    rcases h.lrg with ⟨rfl, hno⟩ | ⟨B, sz, rfl, _, _, hM⟩
    · have hi : idx d x = none := by
        have := hno x
        unfold largeAt at this
        rw [if_neg hx] at this
        simpa using this
      rw [Maps.look_nil true law2 Yba.underlying41 (zero3 w) hkey]
      simp [findN, findB, hi]
    · rw [hM.look_ok law2 Yba.underlying41 (zero3 w) hkey]
      unfold largeAt
      rw [if_neg hx]
      cases hi : idx d x <;> simp [findN, findB, hi]
  by_cases h0 : 0 ≤ x
  · have h1 : decide (x < 65536) = false := decide_eq_false (by omega)
    go_enter Yba.func17, Yba.ntmps17
    go_wp2
    go_ret2
    exact ⟨rfl, rfl⟩
  · have h1 : decide (0 ≤ x) = false := decide_eq_false h0
    go_enter Yba.func17, Yba.ntmps17
    go_wp2
    go_ret2
    exact ⟨rfl, rfl⟩
end Go.Proofs.Ybulkcsym.Numb
