/-
  OUR OWN. 'committed.precedes' and the law's own 'zzs4731cprec' (functions 25, 16).
-/
import Derived.Test.YbulkcsymCnt
namespace Go.Proofs.Ybulkcsym
open Go.RowKit Go.Shelf

/-- 'committed.precedes' (function 25). -/
theorem cprecedes (W s a b i n pb wb cb tb sh : Nat) (h0 : W < 10) (h1 : s < 4) (ha : a < n) (hb : b < n) (hn : n ≤ 300) (w : World) (wbits x on v : Int) (HS : Hid (sh = s * W)) (hs64 : (sh : Int) ≤ 64) (c1 : w.cell? ⟨pb, 1, none⟩ = some (.int .i64 W)) (c7 : w.cell? ⟨pb, 7, none⟩ = some (.int .i64 wbits)) (c8 : w.cell? ⟨pb, 8, none⟩ = some (.int .u64 (invW W)))
    (c3 : w.cell? ⟨pb, 3, none⟩ = some (.int .i64 1)) (c4 : w.cell? ⟨pb, 4, none⟩ = some (.slice (some ⟨wb, 0, none⟩) n n)) (c5 : w.cell? ⟨pb, 5, none⟩ = some (.int .u64 on)) (cx : w.cell? ⟨wb, b, none⟩ = some (.int .u64 x))
    (hand : bits BinOp.and .u64 (x / 2 ^ sh) on = v) (hv0 : 0 ≤ v) (hv : v ≤ 300)
    (d0 : w.cell? ⟨cb, 0, none⟩ = some (.slice (some ⟨tb, 0, none⟩) n n)) (d1 : w.cell? ⟨tb, a * 8 + 1, none⟩ = some (.int .i64 s)) (d2 : w.cell? ⟨tb, a * 8 + 2, none⟩ = some (.int .i64 i)) :
    Calls Yba.prog 25 #[.pointer (some ⟨cb, 0, none⟩), .pointer (some ⟨pb, 0, none⟩), .int .i64 a, .int .i64 b] w fun e w' => e = .returned (.bool (decide (a ≠ b) && decide ((i : Int) < v))) ∧ ∃ m, w' = w.drewN m := by
  have hC := hide fun m => count_walk W s b n pb wb sh h0 h1 hb hn (w.drewN m) wbits x on v HS hs64 c1 c7 c8 c3 c4 c5 cx hand hv0 hv
  clear c1 c7 c8 c3 c4 c5 cx hand
  by_cases hab : a = b
  · have hd : ((a : Int) != b) = false := by simp [hab]
    go_enter Yba.func25, Yba.ntmps25
    go_wp2
    go_quiet (fail)
    go_wp2
    go_ret
    subst hab
    exact ⟨by simp, _, rfl⟩
  · have hd : ((a : Int) != b) = true := by simp; omega
    go_enter Yba.func25, Yba.ntmps25
    go_wp2
    go_quiet ((go_at_call 26; exact Calls.quiet_of (hC.out _)))
    go_wp2
    go_ret
    exact ⟨by simp [hab], _, rfl⟩

/-- 'zzs4731cprec' (function 16). -/
theorem zprec (s a b i n S so io mb : Nat) (ha : a < n) (hb : b < n) (hn : n ≤ 300) (hS : S ≤ 4) (hs : s < S) (w : World) (v : Int)
    (d0 : w.cell? ⟨so, a, none⟩ = some (.int .i64 s)) (d1 : w.cell? ⟨io, a, none⟩ = some (.int .i64 i)) (d2 : w.cell? ⟨mb, b * S + s, none⟩ = some (.int .i64 v)) :
    Calls Yba.prog 16 #[.slice (some ⟨so, 0, none⟩) n n, .slice (some ⟨io, 0, none⟩) n n, .slice (some ⟨mb, 0, none⟩) (n * S) (n * S), .int .i64 S, .int .i64 a, .int .i64 b] w fun e w' => e = .returned (.bool (decide (a ≠ b) && decide ((i : Int) < v))) ∧ ∃ m, w' = w.drewN m := by
  have l1 : b * S ≤ n * S := Nat.mul_le_mul_right _ (by omega)
  have l1' : (b + 1) * S ≤ n * S := Nat.mul_le_mul_right _ (by omega)
  rw [Nat.add_mul] at l1'
  have l2 : n * S ≤ 300 * 4 := Nat.mul_le_mul hn hS
  obtain ⟨N, hN⟩ : ∃ N, N = n * S := ⟨_, rfl⟩
  obtain ⟨q, hq⟩ : ∃ q, q = b * S := ⟨_, rfl⟩
  rw [← hN] at l1 l1' l2 ⊢
  rw [← hq] at l1 l1' d2
  have hq' : wrap64 ((b : Int) * (S : Int)) = (q : Nat) := by rw [hq, ← Int.natCast_mul]; exact IntWalk.wrap64_in _ (by rw [← hq]; omega)
  have l3 : (q : Int) + (s : Int) < (N : Int) := by omega
  have HN := hide hN
  have HQ := hide hq
  clear hN hq
  by_cases hab : a = b
  · have hd : ((a : Int) != b) = false := by simp [hab]
    go_enter Yba.func16, Yba.ntmps16
    go_wp2
    go_quiet (fail)
    go_wp2
    go_ret
    subst hab
    exact ⟨by simp, _, rfl⟩
  · have hd : ((a : Int) != b) = true := by simp; omega
    go_enter Yba.func16, Yba.ntmps16
    go_wp2
    go_quiet (fail)
    go_wp2
    go_ret
    exact ⟨by simp [hab], _, rfl⟩
end Go.Proofs.Ybulkcsym
