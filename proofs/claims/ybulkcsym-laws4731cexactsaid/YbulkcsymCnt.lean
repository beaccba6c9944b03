/-
  OUR OWN. 'countTable': place, raise, count (functions 20, 14, 26), math/bits.Len and Mul64 where they call them.
-/
import Derived.Test.YbulkcsymAParts
import Derived.Shelf.Lay
import Derived.Shelf.Small.Bits
import Derived.BigQuiet
import Derived.BigRegion
import Derived.Deep.OwnRows
import Derived.Deep.DeepCutAuto
namespace Go.Proofs.Ybulkcsym
open Go.RowKit Go.Shelf
shelf_lay Lays.n125 Nm 125 at Yba as Yba.lays125
theorem bits_Len (x : Int) (w : World) (h0 : 0 ≤ x) (h1 : x ≤ 18446744073709551615) :
    Calls Yba.prog 19 #[.int .u64 x] w fun e w' => e = .returned (.int .i64 (Lib.bitLen x.toNat)) ∧ w' = w := Any.bits_Len Yba.lays125 x w h0 h1

def invW (W : Nat) : Int := 18446744073709551615 / (64 / W : Nat) + 1

theorem ret_mul {a : Int} {b : Int} (h : a = 0) : Ending.returned (.tuple #[.int .u64 a, .int .u64 b]) = .returned (.tuple #[.int .u64 0, .int .u64 b]) := by rw [h]
theorem mul64 (W s : Nat) (h0 : W < 10) (h1 : s < 4) (w : World) :
    Calls Yba.prog 24 #[.int .u64 s, .int .u64 (invW W)] w fun e w' => (∃ lo, e = .returned (.tuple #[.int .u64 0, .int .u64 lo])) ∧ w' = w := by
  obtain ⟨x, hx⟩ : ∃ x : Int, x = s := ⟨_, rfl⟩
  obtain ⟨y, hy⟩ : ∃ y : Int, y = invW W := ⟨_, rfl⟩
  rw [← hx, ← hy]
  go_enter Yba.func24, Yba.ntmps24
  go_wp2
  go_ret2
  refine ⟨⟨_, ret_mul ?_⟩, rfl⟩
  clear hx hy x y
  revert h1; revert s; revert h0; revert W
  decide +kernel

theorem place (W s pb : Nat) (h0 : W < 10) (h1 : s < 4) (w : World) (wb : Int) (c1 : w.cell? ⟨pb, 1, none⟩ = some (.int .i64 W)) (c7 : w.cell? ⟨pb, 7, none⟩ = some (.int .i64 wb)) (c8 : w.cell? ⟨pb, 8, none⟩ = some (.int .u64 (invW W))) :
    Calls Yba.prog 20 #[.pointer (some ⟨pb, 0, none⟩), .int .i64 s] w fun e w' => e = .returned (.tuple #[.int .i64 0, .int .i64 (s * W : Nat)]) ∧ ∃ m, w' = w.drewN m := by
  have hM := hide (mul64 W s h0 h1)
  go_enter Yba.func20, Yba.ntmps20
  go_wp2_with fail
  refine (hM.out _).mono ?_
  rintro e w' ⟨⟨lo, rfl⟩, hww⟩
  obtain rfl : w = w' := hww.symm
  go_wp2
  go_quiet (fail)
  go_wp2
  go_ret2
  have e1 : wrap64 (wrap64 ((s : Int) * (W : Int))) = (s * W : Nat) := by
    rw [← Int.natCast_mul]
    have : s * W ≤ 4 * 10 := Nat.mul_le_mul (by omega) (by omega)
    rw [IntWalk.wrap64_in (s * W : Nat) (by omega), IntWalk.wrap64_in _ (by omega)]
  exact ⟨congrArg (fun z => Ending.returned (.tuple #[.int .i64 0, .int .i64 z])) e1, _, rfl⟩

theorem raise_walk (W s t v n pb wb sh : Nat) (h0 : W < 10) (h1 : s < 4) (ht : t < n) (hn : n ≤ 300) (w : World) (wbits x on : Int) (HS : Hid (sh = s * W)) (hs64 : (sh : Int) ≤ 64) (c1 : w.cell? ⟨pb, 1, none⟩ = some (.int .i64 W)) (c7 : w.cell? ⟨pb, 7, none⟩ = some (.int .i64 wbits)) (c8 : w.cell? ⟨pb, 8, none⟩ = some (.int .u64 (invW W)))
    (c3 : w.cell? ⟨pb, 3, none⟩ = some (.int .i64 1)) (c4 : w.cell? ⟨pb, 4, none⟩ = some (.slice (some ⟨wb, 0, none⟩) n n)) (c5 : w.cell? ⟨pb, 5, none⟩ = some (.int .u64 on)) (cx : w.cell? ⟨wb, t, none⟩ = some (.int .u64 x)) (fx : w.frozen? ⟨wb, t, none⟩ = false)
    (hand : bits BinOp.and .u64 (x / 2 ^ sh) on = 0) (hv : v ≤ 300) :
    Calls Yba.prog 14 #[.pointer (some ⟨pb, 0, none⟩), .int .i64 t, .int .i64 s, .int .i64 v] w fun e w' => e = .returned (.tuple #[]) ∧ ∃ m, w' = w.drewN m ∧ v = 0 ∨ w' = (w.drewN m).setCell ⟨wb, t, none⟩ (.int .u64 (IntKind.u64.wrap (x + IntKind.u64.wrap (v * 2 ^ sh)))) := by
  have hP := hide (place W s pb h0 h1 w wbits c1 c7 c8)
  have l0 : (t : Int) * 1 < n := by omega
  by_cases hv0 : 0 < v
  · go_enter Yba.func14, Yba.ntmps14
    go_wp2_with fail
    refine hP.out.mono ?_
    rintro e w' ⟨rfl, m, rfl⟩
    rw [← HS.out]
    go_wp2
    go_quiet (fail)
    go_wp2
    go_quiet (fail)
    go_wp2
    go_region
    all_goals
      go_wp2
      go_end0
      exact ⟨rfl, _, .inr rfl⟩
  · obtain rfl : v = 0 := by omega
    go_enter Yba.func14, Yba.ntmps14
    go_wp2_with fail
    refine hP.out.mono ?_
    rintro e w' ⟨rfl, m, rfl⟩
    rw [← HS.out]
    go_wp2
    go_quiet (fail)
    go_wp2
    go_quiet (fail)
    go_wp2
    go_end0
    exact ⟨rfl, _, .inl ⟨rfl, trivial⟩⟩

theorem count_walk (W s t n pb wb sh : Nat) (h0 : W < 10) (h1 : s < 4) (ht : t < n) (hn : n ≤ 300) (w : World) (wbits x on v : Int) (HS : Hid (sh = s * W)) (hs64 : (sh : Int) ≤ 64) (c1 : w.cell? ⟨pb, 1, none⟩ = some (.int .i64 W)) (c7 : w.cell? ⟨pb, 7, none⟩ = some (.int .i64 wbits)) (c8 : w.cell? ⟨pb, 8, none⟩ = some (.int .u64 (invW W)))
    (c3 : w.cell? ⟨pb, 3, none⟩ = some (.int .i64 1)) (c4 : w.cell? ⟨pb, 4, none⟩ = some (.slice (some ⟨wb, 0, none⟩) n n)) (c5 : w.cell? ⟨pb, 5, none⟩ = some (.int .u64 on)) (cx : w.cell? ⟨wb, t, none⟩ = some (.int .u64 x))
    (hand : bits BinOp.and .u64 (x / 2 ^ sh) on = v) (hv0 : 0 ≤ v) (hv : v ≤ 300) :
    Calls Yba.prog 26 #[.pointer (some ⟨pb, 0, none⟩), .int .i64 t, .int .i64 s] w fun e w' => e = .returned (.int .i64 v) ∧ ∃ m, w' = w.drewN m := by
  have hP := hide (place W s pb h0 h1 w wbits c1 c7 c8)
  have l0 : (t : Int) * 1 < n := by omega
  have hw : wrap64 v = v := IntWalk.wrap64_in v (by omega)
  have HW := hide hw
  clear hw
  go_enter Yba.func26, Yba.ntmps26
  go_wp2_with fail
  refine hP.out.mono ?_
  rintro e w' ⟨rfl, m, rfl⟩
  rw [← HS.out]
  go_wp2
  go_quiet (fail)
  go_wp2
  go_ret
  exact ⟨rfl, _, by rw [World.drewN_drewN]⟩

end Go.Proofs.Ybulkcsym
